import PyProof.Rows.All
import Wide.All
import OpenK.AllK
import Wide.FinOn
import Lean
import PySem.Challenge.RW_sc0070_01
set_option Elab.async false
namespace SC
open PySem PySem.Spec PySem.Calls PyProof.Rows PySem.W
abbrev Kp (h h' : Heap) : Prop := ∀ b o, h.get? b = some o → h'.get? b = some o
def GE (g g' : Array GenState) : Prop := ∃ l : List GenState, g'.toList = g.toList ++ l ∧ ∀ x ∈ l, x.bare = true
theorem GE.refl (g : Array GenState) : GE g g := ⟨[], by simp, by simp⟩
theorem GE.trans {a b c : Array GenState} (x : GE a b) (y : GE b c) : GE a c := by
  obtain ⟨l, e, h⟩ := x; obtain ⟨l', e', h'⟩ := y
  refine ⟨l ++ l', by rw [e', e, List.append_assoc], fun z hz => ?_⟩
  rcases List.mem_append.mp hz with q | q
  · exact h z q
  · exact h' z q
def GM (p : Bool) (g g' : Array GenState) : Prop := if p then g' = g else GE g g'
theorem GM.refl (p : Bool) (g : Array GenState) : GM p g g := by cases p <;> simp [GM, GE.refl]
theorem GM.trans {p : Bool} {a b c : Array GenState} (x : GM p a b) (y : GM p b c) : GM p a c := by
  cases p with
  | true => simp only [GM, if_true] at *; rw [y, x]
  | false => simp only [GM, Bool.false_eq_true, if_false] at *; exact x.trans y
theorem GM.of_true {p : Bool} {a b : Array GenState} (x : GM true a b) : GM p a b := by
  have e : b = a := by simpa [GM] using x
  subst e; exact GM.refl p _
structure Glo (p : Bool) (s s' : Shared) : Prop where
  dr : s'.drawn = s.drawn
  os : s'.os = s.os
  ge : GM p s.gens s'.gens
theorem Glo.refl (p : Bool) (s : Shared) : Glo p s s := ⟨rfl, rfl, GM.refl p _⟩
theorem Glo.trans {p : Bool} {a b c : Shared} (x : Glo p a b) (y : Glo p b c) : Glo p a c := ⟨y.dr.trans x.dr, y.os.trans x.os, x.ge.trans y.ge⟩
structure Ext (p : Bool) (s s' : Shared) : Prop extends Glo p s s' where
  kp : Kp s.heap s'.heap
theorem Ext.refl (p : Bool) (s : Shared) : Ext p s s := ⟨Glo.refl p s, fun _ _ e => e⟩
theorem Ext.trans {p : Bool} {a b c : Shared} (x : Ext p a b) (y : Ext p b c) : Ext p a c := ⟨x.toGlo.trans y.toGlo, fun b o e => y.kp b o (x.kp b o e)⟩
theorem Ext.of_true {p : Bool} {a b : Shared} (x : Ext true a b) : Ext p a b := ⟨⟨x.dr, x.os, x.ge.of_true⟩, x.kp⟩
theorem Ext.of_keeps {p : Bool} {s s' : Shared} (x : Keeps s s') : Ext p s s' := by
  obtain ⟨h', tk, rfl, k⟩ := x
  exact ⟨⟨rfl, rfl, GM.refl p _⟩, k⟩
theorem Ext.mk' {p : Bool} {s : Shared} {h' : Heap} {tk : Nat} (k : Kp s.heap h') : Ext p s { s with heap := h', toks := tk } := ⟨⟨rfl, rfl, GM.refl p _⟩, k⟩
theorem Ext.tok {p : Bool} {s : Shared} {tk : Nat} : Ext p s { s with toks := tk } := ⟨⟨rfl, rfl, GM.refl p _⟩, fun _ _ e => e⟩
theorem Ext.size {p : Bool} {a b : Shared} (x : Ext p a b) {l : Addr} (h : (a.heap.get? l).isSome) : (b.heap.get? l).isSome := by
  obtain ⟨o, e⟩ := Option.isSome_iff_exists.mp h
  rw [x.kp _ _ e]; rfl
inductive AV where
  | none | bool (b : Bool) | int (i : Int) | str (s : Str) | list (xs : List AV) | tup (xs : List AV) | own (xs : List AV) | ref (a : Addr) | inst (c : Addr) (A : AV)
abbrev lstO (vs : List Value) (n : Nat) : Obj := { cls := .type "list", data := .seq vs.toArray n }
abbrev tupO (vs : List Value) (n : Nat) : Obj := { cls := .type "tuple", data := .seq vs.toArray n }
mutual
def V (g : Addr → Option Obj) : AV → Value → Prop
  | .none, v => v = .none
  | .bool b, v => v = .bool b
  | .int i, v => ∃ t, v = .int i t
  | .str x, v => ∃ t, v = .str x t
  | .list xs, v => ∃ a n vs, v = .ref a ∧ g a = some (lstO vs n) ∧ Vs g xs vs
  | .tup xs, v => ∃ a n vs, v = .ref a ∧ g a = some (tupO vs n) ∧ Vs g xs vs
  | .own _, _ => False
  | .ref a, v => v = .ref a
  | .inst c A, v => ∃ x o dx od es ep vn, v = .ref x ∧ g x = some o ∧ o.cls = .ref c ∧ (∀ c, o.data ≠ .cls c) ∧ o.dict = some dx ∧ dx ≠ x ∧ g dx = some od ∧ od.data = .dict es ep ∧ StrKeys es ∧ UniqKeys es ∧ nsFind es "norm" = some vn ∧ V g A vn
def Vs (g : Addr → Option Obj) : List AV → List Value → Prop
  | [], vs => vs = []
  | x :: xs, vs => ∃ v r, vs = v :: r ∧ V g x v ∧ Vs g xs r
end
mutual
theorem V.mono {g g' : Addr → Option Obj} (h : ∀ a o, g a = some o → g' a = some o) : ∀ (A : AV) (v : Value), V g A v → V g' A v
  | .none, _, x => by simpa [V] using x
  | .bool _, _, x => by simpa [V] using x
  | .int _, _, x => by simpa [V] using x
  | .str _, _, x => by simpa [V] using x
  | .list xs, v, x => by
    simp only [V] at x ⊢
    obtain ⟨a, n, vs, e, q, r⟩ := x
    exact ⟨a, n, vs, e, h _ _ q, Vs.mono h xs vs r⟩
  | .tup xs, v, x => by
    simp only [V] at x ⊢
    obtain ⟨a, n, vs, e, q, r⟩ := x
    exact ⟨a, n, vs, e, h _ _ q, Vs.mono h xs vs r⟩
  | .own _, _, x => by simp [V] at x
  | .ref _, _, x => by simpa [V] using x
  | .inst c A, v, q => by
    simp only [V] at q ⊢
    obtain ⟨x, o, dx, od, es, ep, vn, e1, e2, e3, e4, e5, e6, e7, e8, e9, e10, e11, e12⟩ := q
    exact ⟨x, o, dx, od, es, ep, vn, e1, h _ _ e2, e3, e4, e5, e6, h _ _ e7, e8, e9, e10, e11, V.mono h A vn e12⟩
theorem Vs.mono {g g' : Addr → Option Obj} (h : ∀ a o, g a = some o → g' a = some o) : ∀ (As : List AV) (vs : List Value), Vs g As vs → Vs g' As vs
  | [], _, x => by simpa [Vs] using x
  | A :: As, vs, x => by
    simp only [Vs] at x ⊢
    obtain ⟨v, r, e, q, y⟩ := x
    exact ⟨v, r, e, V.mono h A v q, Vs.mono h As r y⟩
end
def fz (h : Heap) (mu : List Addr) (a : Addr) : Option Obj := if a ∈ mu then none else h.get? a
theorem fz.get {h : Heap} {mu : List Addr} {a : Addr} {o : Obj} (e : fz h mu a = some o) : h.get? a = some o := by
  unfold fz at e; split at e
  · cases e
  · exact e
theorem fz.notin {h : Heap} {mu : List Addr} {a : Addr} {o : Obj} (e : fz h mu a = some o) : a ∉ mu := by
  unfold fz at e; split at e
  · cases e
  · assumption
theorem fz.of {h : Heap} {mu : List Addr} {a : Addr} {o : Obj} (e : h.get? a = some o) (n : a ∉ mu) : fz h mu a = some o := by
  unfold fz; rw [if_neg n]; exact e
theorem fz.kp {h h' : Heap} {mu : List Addr} (k : Kp h h') : ∀ a o, fz h mu a = some o → fz h' mu a = some o := fun a o e => fz.of (k a o (fz.get e)) (fz.notin e)
theorem fz.same {h h' : Heap} {mu : List Addr} {l : Addr} (k : Heap.SameBut l h h') (hl : l ∈ mu) : ∀ a o, fz h mu a = some o → fz h' mu a = some o := fun a o e =>
  fz.of ((k.2 a (fun q => fz.notin e (q ▸ hl))).trans (fz.get e)) (fz.notin e)
theorem fz.sub {h : Heap} {mu mu' : List Addr} (k : ∀ a ∈ mu, a ∈ mu') : ∀ a o, fz h mu' a = some o → fz h mu a = some o := fun a o e => fz.of (fz.get e) (fun q => fz.notin e (k a q))
theorem fz.fresh {h : Heap} {mu : List Addr} {l : Addr} (hl : h.get? l = none) : ∀ a o, fz h mu a = some o → fz h (l :: mu) a = some o := fun a o e => by
  refine fz.of (fz.get e) fun q => ?_
  rcases List.mem_cons.mp q with rfl | q
  · rw [fz.get e] at hl; cases hl
  · exact fz.notin e q
abbrev Rho := List (Str × AV)
structure Fc where
  A : Around
  env : Env
  ent : Heap
  mu : List Addr
  own : Option (Str × Addr)
  oc : Str → Bool
def VO (C : Fc) (h : Heap) (x : Str) : AV → Value → Prop
  | .own xs, v => ∃ a n vs, C.own = some (x, a) ∧ v = .ref a ∧ h.get? a = some (lstO vs n) ∧ Vs (fz h C.mu) xs vs
  | A, v => V (fz h C.mu) A v
structure Rm (A : Around) (n : Nat) : Prop where
  hd : A.handled = none
  dp : A.depth + n < recursionLimit
  un : A.units + 8 * n + 80 < cLine
theorem Rm.le {A : Around} {n m : Nat} (r : Rm A n) (h : m ≤ n) : Rm A m := ⟨r.hd, by have := r.dp; omega, by have := r.un; omega⟩
theorem Rm.in1 {A : Around} {n : Nat} (r : Rm A (n + 1)) : Rm A.in1 n := ⟨r.hd, by have := r.dp; show A.depth + n < _; omega, by have := r.un; show A.units + 1 + 8 * n + 80 < cLine; omega⟩
theorem Rm.deeper {A : Around} {n : Nat} (env : Env) (r : Rm A (n + 1)) : Rm (A.deeper env) n :=
  ⟨r.hd, by have := r.dp; show A.depth + 1 + n < _; omega, by have := r.un; show A.units + 3 + 8 * n + 80 < cLine; omega⟩
structure Wd where
  prog : Program
  w : World
  N : Nat
  mg : Str → Option Value
  mb : Str → Option Value
  defs : List DefItem
  consts : List (Str × PyData)
  objs : List (Str × (Obj → Prop))
  names : List Str
  B : Heap → Prop
  Bk : ∀ h h', Kp h h' → B h → B h'
  BG : ∀ h, B h → Glob N mg mb defs consts objs names h
structure WF (W : Wd) (C : Fc) : Prop where
  bs : W.B C.ent
  rm : Rm C.A 3
  gl : C.env.globals = mainGlobals
  bi : C.env.builtins = builtinsNs
  kind : C.env.scope.kind = .function
  Lmu : C.env.locals ∈ C.mu
  Lent : C.ent.get? C.env.locals = none
  cL : ∀ x c, C.env.cells.lookup x = some c → c ≠ C.env.locals
  cdis : ∀ x y c, C.oc x = true → C.env.cells.lookup x = some c → C.env.cells.lookup y = some c → y = x
  cmu : ∀ x c, C.oc x = true → C.env.cells.lookup x = some c → c ∈ C.mu ∧ C.ent.get? c = none
  omu : ∀ y a, C.own = some (y, a) → a ∈ C.mu ∧ C.ent.get? a = none ∧ a ≠ C.env.locals ∧ ∀ x c, C.env.cells.lookup x = some c → c ≠ a
structure Inv (W : Wd) (C : Fc) (ρ : Rho) (s : Shared) : Prop where
  wf : WF W C
  ent : Kp C.ent s.heap
  ns : ∃ m, s.heap.Ns C.env.locals m ∧ ∀ x A, ρ.lookup x = some A → C.env.kindOf x = some .local → ∃ v, m x = some v ∧ VO C s.heap x A v
  cl : ∀ x A, ρ.lookup x = some A → C.env.kindOf x ≠ some .local → ∃ c v, C.env.cells.lookup x = some c ∧ s.heap.IsCell c (some v) ∧ V (fz s.heap C.mu) A v
  ce : ∀ x c, C.oc x = true → C.env.cells.lookup x = some c → ∃ v, s.heap.IsCell c v
  mub : ∀ b ∈ C.mu, (s.heap.get? b).isSome = true
  live : ∀ x c, C.env.cells.lookup x = some c → (s.heap.get? c).isSome = true
theorem Kp.size {h h' : Heap} (k : Kp h h') {b : Addr} {o : Obj} (e : h.get? b = some o) : b < h'.objs.size := Heap.lt_size (k b o e)
theorem VO.kp {C : Fc} {h h' : Heap} (k : Kp h h') {x : Str} {A : AV} {v : Value} (y : VO C h x A v) : VO C h' x A v := by
  cases A with
  | own xs =>
    obtain ⟨a, n, vs, e1, e2, e3, e4⟩ := y
    exact ⟨a, n, vs, e1, e2, k _ _ e3, Vs.mono (fz.kp k) _ _ e4⟩
  | _ => exact V.mono (fz.kp k) _ _ y
theorem Inv.kp {W : Wd} {C : Fc} {ρ : Rho} {s s' : Shared} (I : Inv W C ρ s) (k : Kp s.heap s'.heap) : Inv W C ρ s' where
  wf := I.wf
  ent := fun b o e => k b o (I.ent b o e)
  ns := by
    obtain ⟨m, hn, h⟩ := I.ns
    exact ⟨m, hn.keeps k, fun x A e q => by obtain ⟨v, e1, e2⟩ := h x A e q; exact ⟨v, e1, e2.kp k⟩⟩
  cl := fun x A e q => by
    obtain ⟨c, v, e1, e2, e3⟩ := I.cl x A e q
    exact ⟨c, v, e1, e2.keeps k, V.mono (fz.kp k) _ _ e3⟩
  ce := fun x c q e => by obtain ⟨v, h⟩ := I.ce x c q e; exact ⟨v, h.keeps k⟩
  mub := fun b hb => by
    obtain ⟨o, e⟩ := Option.isSome_iff_exists.mp (I.mub b hb)
    rw [k b o e]; rfl
  live := fun x c h => by
    obtain ⟨o, e⟩ := Option.isSome_iff_exists.mp (I.live x c h)
    rw [k c o e]; rfl
theorem Inv.new {W : Wd} {C : Fc} {ρ : Rho} {s : Shared} (I : Inv W C ρ s) {a : Addr} (h : s.heap.get? a = none) : a ∉ C.mu := fun q => by
  have := I.mub a q; rw [h] at this; cases this
theorem get_size (h : Heap) : h.get? h.objs.size = none := by
  cases e : h.get? h.objs.size with
  | none => rfl
  | some o => exact absurd (Heap.lt_size e) (Nat.lt_irrefl _)
def upd (ρ : Rho) (x : Str) (A : AV) : Rho := (x, A) :: ρ
theorem upd_look (ρ : Rho) (x y : Str) (A : AV) : (upd ρ x A).lookup y = if y = x then some A else ρ.lookup y := by
  unfold upd; rw [List.lookup_cons]
  by_cases h : y = x
  · subst h; simp
  · simp [h, beq_eq_false_iff_ne.mpr h]
theorem lookup_mem {α : Type} {l : List (Str × α)} {n : Str} {c : α} (h : l.lookup n = some c) : (n, c) ∈ l := PySem.mem_of_lookup h
theorem cell_name {cs : List (Str × Addr)} (hp : cs.Pairwise fun x y => x.2 ≠ y.2) {n n' : Str} {c : Addr} (h : (n, c) ∈ cs) (h' : (n', c) ∈ cs) : n = n' := PySem.name_of_addr hp h h'
theorem VO.same {C : Fc} {h h' : Heap} {l : Addr} (k : Heap.SameBut l h h') (hl : l ∈ C.mu) (ho : ∀ y a, C.own = some (y, a) → a ≠ l) {x : Str} {A : AV} {v : Value} (y : VO C h x A v) : VO C h' x A v := by
  cases A with
  | own xs =>
    obtain ⟨a, n, vs, e1, e2, e3, e4⟩ := y
    exact ⟨a, n, vs, e1, e2, (k.2 a (ho _ _ e1)).trans e3, Vs.mono (fz.same k hl) _ _ e4⟩
  | _ => exact V.mono (fz.same k hl) _ _ y
theorem VO.of_V {C : Fc} {h : Heap} {x : Str} {A : AV} {v : Value} (y : V (fz h C.mu) A v) : VO C h x A v := by
  cases A with
  | own xs => simp [V] at y
  | _ => exact y
theorem Inv.setL {W : Wd} {C : Fc} {ρ : Rho} {s s' : Shared} (I : Inv W C ρ s) {x : Str} {v : Value} {A : AV} (hA : VO C s.heap x A v)
    (hs : Heap.SameBut C.env.locals s.heap s'.heap) (hn : ∀ m, s.heap.Ns C.env.locals m → s'.heap.Ns C.env.locals (fun y => if y = x then some v else m y))
    (hx : C.env.kindOf x = some .local) : Inv W C (upd ρ x A) s' where
  wf := I.wf
  ent := fun b o e => (hs.2 b (fun q => by rw [q, I.wf.Lent] at e; cases e)).trans (I.ent b o e)
  ns := by
    obtain ⟨m, h1, h⟩ := I.ns
    have oL : ∀ y a, C.own = some (y, a) → a ≠ C.env.locals := fun y a e => (I.wf.omu y a e).2.2.1
    refine ⟨_, hn m h1, fun y B e q => ?_⟩
    rw [upd_look] at e
    by_cases hy : y = x
    · subst hy
      rw [if_pos rfl] at e; cases e
      exact ⟨v, if_pos rfl, hA.same hs I.wf.Lmu oL⟩
    · rw [if_neg hy] at e
      obtain ⟨v', e1, e2⟩ := h y B e q
      exact ⟨v', by show (if y = x then _ else _) = _; rw [if_neg hy]; exact e1, e2.same hs I.wf.Lmu oL⟩
  cl := fun y B e q => by
    rw [upd_look] at e
    by_cases hy : y = x
    · subst hy; exact absurd hx q
    · rw [if_neg hy] at e
      obtain ⟨c, v', e1, e2, e3⟩ := I.cl y B e q
      exact ⟨c, v', e1, e2.sameBut hs (I.wf.cL _ _ e1), V.mono (fz.same hs I.wf.Lmu) _ _ e3⟩
  ce := fun y c q e => by
    obtain ⟨v', h⟩ := I.ce y c q e
    exact ⟨v', h.sameBut hs (I.wf.cL _ _ e)⟩
  mub := fun b hb => by
    by_cases q : b = C.env.locals
    · subst q
      obtain ⟨m, h1, _⟩ := I.ns
      obtain ⟨o, es, ep, e, _⟩ := hn m h1
      rw [e]; rfl
    · rw [hs.2 b q]; exact I.mub b hb
  live := fun y c h => by rw [hs.2 c (I.wf.cL y c h)]; exact I.live y c h
theorem Inv.setC {W : Wd} {C : Fc} {ρ : Rho} {s s' : Shared} (I : Inv W C ρ s) {x : Str} (oc : C.oc x = true) {c : Addr} {v : Value} {A : AV} (hA : V (fz s.heap C.mu) A v)
    (hc : C.env.cells.lookup x = some c) (hs : Heap.SameBut c s.heap s'.heap) (hv : s'.heap.IsCell c (some v))
    (hx : C.env.kindOf x ≠ some .local) : Inv W C (upd ρ x A) s' where
  wf := I.wf
  ent := fun b o e => (hs.2 b (fun q => by rw [q, (I.wf.cmu _ _ oc hc).2] at e; cases e)).trans (I.ent b o e)
  ns := by
    obtain ⟨m, h1, h⟩ := I.ns
    have cmu := (I.wf.cmu _ _ oc hc).1
    refine ⟨m, h1.sameBut hs (Ne.symm (I.wf.cL _ _ hc)), fun y B e q => ?_⟩
    rw [upd_look] at e
    by_cases hy : y = x
    · subst hy; exact absurd q hx
    · rw [if_neg hy] at e
      obtain ⟨v', e1, e2⟩ := h y B e q
      exact ⟨v', e1, e2.same hs cmu fun z a ez => Ne.symm ((I.wf.omu z a ez).2.2.2 _ _ hc)⟩
  cl := fun y B e q => by
    have cmu := (I.wf.cmu _ _ oc hc).1
    rw [upd_look] at e
    by_cases hy : y = x
    · subst hy
      rw [if_pos rfl] at e; cases e
      exact ⟨c, v, hc, hv, V.mono (fz.same hs cmu) _ _ hA⟩
    · rw [if_neg hy] at e
      obtain ⟨c', v', e1, e2, e3⟩ := I.cl y B e q
      exact ⟨c', v', e1, e2.sameBut hs (fun q' => hy (I.wf.cdis x y c oc hc (q' ▸ e1))), V.mono (fz.same hs cmu) _ _ e3⟩
  ce := fun y c' q e => by
    by_cases hq : c' = c
    · subst hq; exact ⟨_, hv⟩
    · obtain ⟨v', h⟩ := I.ce y c' q e
      exact ⟨v', h.sameBut hs hq⟩
  mub := fun b hb => by
    by_cases q : b = c
    · subst q
      obtain ⟨o, e, _⟩ := hv
      rw [e]; rfl
    · rw [hs.2 b q]; exact I.mub b hb
  live := fun y c' h => by
    by_cases q : c' = c
    · subst q
      obtain ⟨o, e, _⟩ := hv
      rw [e]; rfl
    · rw [hs.2 c' q]; exact I.live y c' h
theorem Inv.weak {W : Wd} {C : Fc} {ρ ρ' : Rho} {s : Shared} (I : Inv W C ρ s) (h : ∀ x A, ρ'.lookup x = some A → ρ.lookup x = some A) : Inv W C ρ' s where
  wf := I.wf
  ent := I.ent
  ns := by obtain ⟨m, h1, h2⟩ := I.ns; exact ⟨m, h1, fun x A e q => h2 x A (h x A e) q⟩
  cl := fun x A e q => I.cl x A (h x A e) q
  ce := I.ce
  mub := I.mub
  live := I.live
end SC
namespace SC
open PySem PySem.Spec PySem.Calls PyProof.Rows PySem.W
abbrev MuOk (mu : List Addr) (h : Heap) : Prop := ∀ b ∈ mu, (h.get? b).isSome = true
theorem MuOk.new {mu : List Addr} {h : Heap} (k : MuOk mu h) {a : Addr} (e : h.get? a = none) : a ∉ mu := fun q => by have := k a q; rw [e] at this; cases this
theorem MuOk.kp {mu : List Addr} {h h' : Heap} (k : MuOk mu h) (x : Kp h h') : MuOk mu h' := fun b hb => by
  obtain ⟨o, e⟩ := Option.isSome_iff_exists.mp (k b hb); rw [x b o e]; rfl
theorem kpush (h : Heap) (o : Obj) : Kp h (h.push o) := fun _ _ e => Heap.get?_push_of_some _ e
theorem Ext.push {p : Bool} {s : Shared} {o : Obj} {tk : Nat} : Ext p s { s with heap := s.heap.push o, toks := tk } := Ext.mk' (kpush _ _)
theorem Ext.push' {p : Bool} {s : Shared} {o : Obj} : Ext p s { s with heap := s.heap.push o } := Ext.mk' (kpush _ _)
theorem Ext.push2 {p : Bool} {s : Shared} {o o' : Obj} {tk : Nat} : Ext p s { s with heap := (s.heap.push o).push o', toks := tk } := Ext.mk' fun b x e => kpush _ _ _ _ (kpush _ _ _ _ e)
section vals
variable {g : Addr → Option Obj}
theorem V.int_is {i : Int} {v : Value} (h : V g (.int i) v) : ∃ t, v = .int i t := by simpa [V] using h
theorem V.str_is {x : Str} {v : Value} (h : V g (.str x) v) : ∃ t, v = .str x t := by simpa [V] using h
theorem V.bool_is {b : Bool} {v : Value} (h : V g (.bool b) v) : v = .bool b := by simpa [V] using h
theorem V.none_is {v : Value} (h : V g .none v) : v = .none := by simpa [V] using h
theorem V.list_is {xs : List AV} {v : Value} (h : V g (.list xs) v) : ∃ a n vs, v = .ref a ∧ g a = some (lstO vs n) ∧ Vs g xs vs := by simpa [V] using h
theorem V.tup_is {xs : List AV} {v : Value} (h : V g (.tup xs) v) : ∃ a n vs, v = .ref a ∧ g a = some (tupO vs n) ∧ Vs g xs vs := by simpa [V] using h
theorem V.ref_is {a : Addr} {v : Value} (h : V g (.ref a) v) : v = .ref a := by simpa [V] using h
theorem V.ref {a : Addr} : V g (.ref a) (.ref a) := by simp [V]
theorem V.int {i : Int} {t : Tok} : V g (.int i) (.int i t) := by simp [V]
theorem V.str {x : Str} {t : Tok} : V g (.str x) (.str x t) := by simp [V]
theorem V.bool {b : Bool} : V g (.bool b) (.bool b) := by simp [V]
theorem V.none : V g .none Value.none := by simp [V]
theorem V.list {xs : List AV} {a : Addr} {n : Nat} {vs : List Value} (h : g a = some (lstO vs n)) (k : Vs g xs vs) : V g (.list xs) (.ref a) := by
  simp only [V]; exact ⟨a, n, vs, rfl, h, k⟩
theorem V.tup {xs : List AV} {a : Addr} {n : Nat} {vs : List Value} (h : g a = some (tupO vs n)) (k : Vs g xs vs) : V g (.tup xs) (.ref a) := by
  simp only [V]; exact ⟨a, n, vs, rfl, h, k⟩
theorem Vs.nil_is {vs : List Value} (h : Vs g [] vs) : vs = [] := by simpa [Vs] using h
theorem Vs.cons_is {x : AV} {xs : List AV} {vs : List Value} (h : Vs g (x :: xs) vs) : ∃ v r, vs = v :: r ∧ V g x v ∧ Vs g xs r := by simpa [Vs] using h
theorem Vs.nil : Vs g [] [] := by simp [Vs]
theorem Vs.cons {x : AV} {xs : List AV} {v : Value} {r : List Value} (h : V g x v) (k : Vs g xs r) : Vs g (x :: xs) (v :: r) := by simp only [Vs]; exact ⟨v, r, rfl, h, k⟩
theorem Vs.len : ∀ {xs : List AV} {vs : List Value}, Vs g xs vs → vs.length = xs.length
  | [], vs, h => by rw [h.nil_is]; rfl
  | x :: xs, vs, h => by obtain ⟨v, r, rfl, _, k⟩ := h.cons_is; simp [k.len]
theorem Vs.append : ∀ {xs ys : List AV} {vs ws : List Value}, Vs g xs vs → Vs g ys ws → Vs g (xs ++ ys) (vs ++ ws)
  | [], _, vs, _, h, k => by rw [h.nil_is]; exact k
  | x :: xs, _, vs, _, h, k => by obtain ⟨v, r, rfl, q, h'⟩ := h.cons_is; exact Vs.cons q (h'.append k)
theorem Vs.at : ∀ {xs : List AV} {vs : List Value} {i : Nat} {x : AV}, Vs g xs vs → xs[i]? = some x → ∃ v, vs[i]? = some v ∧ V g x v
  | [], _, _, _, _, e => by simp at e
  | y :: xs, vs, 0, x, h, e => by
    obtain ⟨v, r, rfl, q, h'⟩ := h.cons_is
    simp at e; subst e; exact ⟨v, by simp, q⟩
  | y :: xs, vs, i + 1, x, h, e => by
    obtain ⟨v, r, rfl, q, h'⟩ := h.cons_is
    obtain ⟨w, e1, e2⟩ := h'.at (i := i) (x := x) (by simpa using e)
    exact ⟨w, by simpa using e1, e2⟩
theorem Vs.at' : ∀ {xs : List AV} {vs : List Value} {i : Nat} {v : Value}, Vs g xs vs → vs[i]? = some v → ∃ x, xs[i]? = some x ∧ V g x v
  | [], vs, _, _, h, e => by rw [h.nil_is] at e; simp at e
  | y :: xs, vs, 0, x, h, e => by
    obtain ⟨v, r, rfl, q, h'⟩ := h.cons_is
    simp at e; subst e; exact ⟨y, by simp, q⟩
  | y :: xs, vs, i + 1, x, h, e => by
    obtain ⟨v, r, rfl, q, h'⟩ := h.cons_is
    obtain ⟨w, e1, e2⟩ := h'.at' (i := i) (v := x) (by simpa using e)
    exact ⟨w, by simpa using e1, e2⟩
theorem Vs.drop : ∀ {xs : List AV} {vs : List Value} (k : Nat), Vs g xs vs → Vs g (xs.drop k) (vs.drop k)
  | _, _, 0, h => h
  | [], vs, k + 1, h => by rw [h.nil_is]; exact Vs.nil
  | x :: xs, vs, k + 1, h => by obtain ⟨v, r, rfl, _, h'⟩ := h.cons_is; exact h'.drop k
theorem Vs.take : ∀ {xs : List AV} {vs : List Value} (k : Nat), Vs g xs vs → Vs g (xs.take k) (vs.take k)
  | _, _, 0, _ => Vs.nil
  | [], vs, k + 1, h => by rw [h.nil_is]; exact Vs.nil
  | x :: xs, vs, k + 1, h => by obtain ⟨v, r, rfl, q, h'⟩ := h.cons_is; exact Vs.cons q (h'.take k)
theorem Vs.reverse : ∀ {xs : List AV} {vs : List Value}, Vs g xs vs → Vs g xs.reverse vs.reverse
  | [], vs, h => by rw [h.nil_is]; exact Vs.nil
  | x :: xs, vs, h => by
    obtain ⟨v, r, rfl, q, h'⟩ := h.cons_is
    rw [List.reverse_cons, List.reverse_cons]
    exact h'.reverse.append (Vs.cons q Vs.nil)
theorem Vs.replicate {x : AV} {v : Value} (h : V g x v) : ∀ k, Vs g (List.replicate k x) (List.replicate k v)
  | 0 => Vs.nil
  | k + 1 => Vs.cons h (Vs.replicate h k)
theorem Vs.ints : ∀ {ns : List Int} {vs : List Value}, Vs g (ns.map AV.int) vs → IntsAre vs ns
  | [], vs, h => by rw [h.nil_is]; exact .nil
  | n :: ns, vs, h => by
    obtain ⟨v, r, rfl, q, h'⟩ := h.cons_is
    obtain ⟨t, rfl⟩ := q.int_is
    exact .cons n t h'.ints
theorem Vs.of_ints : ∀ {ns : List Int} {vs : List Value}, IntsAre vs ns → Vs g (ns.map AV.int) vs
  | _, _, .nil => Vs.nil
  | _, _, .cons n t h => Vs.cons V.int (Vs.of_ints h)
end vals
end SC
namespace SC
open PySem PySem.Spec PySem.Calls PyProof.Rows PySem.W
section
variable (prog : Program) (w : World)
def Op (t : Sem Value) (mu : List Addr) (Ar : Around) (s : Shared) (R : AV) : Prop :=
  ∀ Q E, (∀ v s', Ext true s s' → V (fz s'.heap mu) R v → Q v s') → wpAny (model prog w) Ar t Q E s
def Bin (op : Operator) (A B R : AV) : Prop :=
  ∀ (Ar : Around) (mu : List Addr) (s : Shared) (a b : Value), Rm Ar 0 → MuOk mu s.heap → V (fz s.heap mu) A a → V (fz s.heap mu) B b → Op prog w (binaryOp op a b) mu Ar s R
def Cmp (op : CmpOp) (A B : AV) (r : Bool) : Prop :=
  ∀ (Ar : Around) (mu : List Addr) (s : Shared) (a b : Value), Rm Ar 0 → MuOk mu s.heap → V (fz s.heap mu) A a → V (fz s.heap mu) B b → Op prog w (compareOp op a b) mu Ar s (.bool r)
def Bui (id : String) (As : List AV) (R : AV) : Prop :=
  ∀ (Ar : Around) (mu : List Addr) (s : Shared) (vs : List Value), Rm Ar 1 → MuOk mu s.heap → Vs (fz s.heap mu) As vs → Op prog w (call (.builtin id) vs) mu Ar s R
variable {prog w}
theorem Bin.add (a b : Int) : Bin prog w .Add (.int a) (.int b) (.int (a + b)) := by
  intro Ar mu s x y _ _ hx hy Q E h
  obtain ⟨t, rfl⟩ := hx.int_is; obtain ⟨u, rfl⟩ := hy.int_is
  exact PyProof.Rows.add_int (h _ _ Ext.tok V.int)
theorem Bin.sub (a b : Int) : Bin prog w .Sub (.int a) (.int b) (.int (a - b)) := by
  intro Ar mu s x y _ _ hx hy Q E h
  obtain ⟨t, rfl⟩ := hx.int_is; obtain ⟨u, rfl⟩ := hy.int_is
  exact PyProof.Rows.sub_int (h _ _ Ext.tok V.int)
theorem Bin.mul (a b : Int) (hm : IntMulOk a b) : Bin prog w .Mult (.int a) (.int b) (.int (a * b)) := by
  intro Ar mu s x y _ _ hx hy Q E h
  obtain ⟨t, rfl⟩ := hx.int_is; obtain ⟨u, rfl⟩ := hy.int_is
  exact P.mul_int (h _ _ Ext.tok V.int) hm
theorem Bin.mod (a b : Int) (hb : b ≠ 0) : Bin prog w .Mod (.int a) (.int b) (.int (a.fmod b)) := by
  intro Ar mu s x y _ _ hx hy Q E h
  obtain ⟨t, rfl⟩ := hx.int_is; obtain ⟨u, rfl⟩ := hy.int_is
  exact mod_int' hb (h _ _ Ext.tok V.int)
theorem Bin.floordiv (a b : Int) (hb : b ≠ 0) (hs : b.natAbs < 1073741824) : Bin prog w .FloorDiv (.int a) (.int b) (.int (a.fdiv b)) := by
  intro Ar mu s x y _ _ hx hy Q E h
  obtain ⟨t, rfl⟩ := hx.int_is; obtain ⟨u, rfl⟩ := hy.int_is
  exact floordiv_int hb (h _ _ Ext.tok V.int) (.inl (PyProof.noPylong_small hs))
theorem Bin.pow (a b : Int) (hb : 0 ≤ b) (hs : (Builtin.Int.intBits a : Int) * b ≤ 2 ^ 27) : Bin prog w .Pow (.int a) (.int b) (.int (a ^ b.toNat)) := by
  intro Ar mu s x y _ _ hx hy Q E h
  obtain ⟨t, rfl⟩ := hx.int_is; obtain ⟨u, rfl⟩ := hy.int_is
  exact pow_int hb hs (h _ _ Ext.tok V.int)
theorem Bin.str_add (a b : Str) (hs : a.length + b.length ≤ sizeLine) : Bin prog w .Add (.str a) (.str b) (.str (a ++ b)) := by
  intro Ar mu s x y _ _ hx hy Q E h
  obtain ⟨t, rfl⟩ := hx.str_is; obtain ⟨u, rfl⟩ := hy.str_is
  exact PyProof.Rows.add_str (fun _ _ => h _ _ Ext.tok V.str) hs
theorem Bin.str_mul (a : Str) (n : Int) (hs : MulOk a n) : Bin prog w .Mult (.str a) (.int n) (.str (Txt.mul a n)) := by
  intro Ar mu s x y _ _ hx hy Q E h
  obtain ⟨t, rfl⟩ := hx.str_is; obtain ⟨u, rfl⟩ := hy.int_is
  exact SB.mul hs fun _ _ => h _ _ Ext.tok V.str
theorem isL {g : Heap} {a : Addr} {vs : List Value} {n : Nat} (h : g.get? a = some (lstO vs n)) : g.IsList a vs.toArray := ⟨_, h, rfl, n, rfl⟩
theorem isT {g : Heap} {a : Addr} {vs : List Value} {n : Nat} (h : g.get? a = some (tupO vs n)) : g.IsTuple a vs.toArray := ⟨_, h, rfl, n, rfl⟩
theorem fz_push {h : Heap} {mu : List Addr} {o : Obj} (m : MuOk mu h) (hf : o.isFreed = false) : fz (h.push o) mu h.objs.size = some o :=
  fz.of (Heap.get?_push_size _ hf) (m.new (get_size h))
theorem Bin.list_add (xs ys : List AV) (hs : xs.length + ys.length ≤ sizeLine) : Bin prog w .Add (.list xs) (.list ys) (.list (xs ++ ys)) := by
  intro Ar mu s x y _ m hx hy Q E h
  obtain ⟨a, n, vs, rfl, e1, k1⟩ := hx.list_is; obtain ⟨b, n', ws, rfl, e2, k2⟩ := hy.list_is
  have ho := fz.get e1
  have ho2 := fz.get e2
  have e : vs.toArray ++ ws.toArray = (vs ++ ws).toArray := by simp
  refine concat_meets ⟨_, ho, rfl⟩ ⟨_, ho2, rfl⟩ noFill_list_add seq_list_add PySem.F.slot_list_add PySem.F.entry_list_add (PySem.F.args_list_add_2 _ _) (list_addW a b vs.toArray ws.toArray n n' none none #[] #[] (by simpa [k1.len, k2.len] using hs)) ⟨ho, ho2, ?_⟩
  rw [e]
  exact h _ _ Ext.push' (V.list (fz_push m rfl) ((Vs.mono (fz.kp (kpush _ _)) _ _ k1).append (Vs.mono (fz.kp (kpush _ _)) _ _ k2)))
theorem flat_rep {α : Type} (xs : List α) (n : Nat) : (List.foldl (fun x1 x2 => x1 ++ x2) (#[] : Array α) (List.replicate n xs.toArray)) = ((List.replicate n xs).flatten).toArray := by
  have h : ∀ (n : Nat) (acc : List α), List.foldl (fun x1 x2 => x1 ++ x2) acc.toArray (List.replicate n xs.toArray) = (acc ++ (List.replicate n xs).flatten).toArray := by
    intro n
    induction n with
    | zero => intro acc; simp
    | succ n ih => intro acc; rw [List.replicate_succ, List.foldl_cons, List.replicate_succ, List.flatten_cons, ← List.append_assoc, ← ih]; congr 1; simp
  simpa using h n []
theorem Vs.flat {g : Addr → Option Obj} {xs : List AV} {vs : List Value} (h : Vs g xs vs) : ∀ n, Vs g (List.replicate n xs).flatten (List.replicate n vs).flatten
  | 0 => Vs.nil
  | n + 1 => by rw [List.replicate_succ, List.replicate_succ, List.flatten_cons, List.flatten_cons]; exact h.append (Vs.flat h n)
theorem Bin.list_mul (xs : List AV) (k : Int) (hs : xs.length * k.toNat ≤ 2 ^ 24) (hk : k < 2 ^ 63) (hk' : -(2 ^ 63) ≤ k) (hne : 0 < xs.length) : Bin prog w .Mult (.list xs) (.int k) (.list (List.replicate k.toNat xs).flatten) := by
  intro Ar mu s x y _ m hx hy Q E h
  obtain ⟨a, n, vs, rfl, e1, k1⟩ := hx.list_is; obtain ⟨u, rfl⟩ := hy.int_is
  have hl := fz.get e1
  have hsz : vs.toArray.size * k.toNat ≤ 2 ^ 24 := by simpa [k1.len] using hs
  have hemp : vs.toArray.isEmpty = false := by
    have := k1.len
    cases vs with
    | nil => simp at this; omega
    | cons => rfl
  refine wpAny_binaryOp_repeat_ref (T := "list") (U := "int") (by decide) ⟨_, hl, rfl⟩ (fun s' => typeIs_int s' k u) noFill_list_mul F.fills_int_mul F.slot_int_rmul repeat_list F.slot_int_index.lookup
    (call_meets F.slot_int_rmul (typeIs_int s k u) F.entry_int_rmul (F.args_int_rmul_2 _ _) (int___rmul___int_list k u a vs.toArray n)
      ⟨hl, rfl, ⟨_, hl, rfl⟩, call_meets F.slot_list_mul ⟨_, hl, rfl⟩ F.entry_list_mul (F.args_list_mul_2 _ _)
        (AutoListH.list___mul___list_int_3 a vs.toArray n k u (by simp [Builtin.List.listFitsIndex]; omega) (by omega) (by simp [Builtin.List.listTooLong, sizeLine]; simpa using hsz))
        ⟨hl, ?_⟩⟩)
  rw [hemp]
  simp only [Bool.false_eq_true, if_false]
  rw [flat_rep]
  exact h _ _ Ext.push' (V.list (fz_push m rfl) (Vs.mono (fz.kp (kpush _ _)) _ _ (k1.flat _)))
theorem Cmp.lt (a b : Int) : Cmp prog w .Lt (.int a) (.int b) (decide (a < b)) := by
  intro Ar mu s x y _ _ hx hy Q E h
  obtain ⟨t, rfl⟩ := hx.int_is; obtain ⟨u, rfl⟩ := hy.int_is
  exact PyProof.Rows.lt_int (h _ _ (Ext.refl _ _) V.bool)
theorem Cmp.gt (a b : Int) : Cmp prog w .Gt (.int a) (.int b) (decide (b < a)) := by
  intro Ar mu s x y _ _ hx hy Q E h
  obtain ⟨t, rfl⟩ := hx.int_is; obtain ⟨u, rfl⟩ := hy.int_is
  exact PyProof.Rows.gt_int (h _ _ (Ext.refl _ _) V.bool)
theorem Cmp.ge (a b : Int) : Cmp prog w .GtE (.int a) (.int b) (decide (b ≤ a)) := by
  intro Ar mu s x y _ _ hx hy Q E h
  obtain ⟨t, rfl⟩ := hx.int_is; obtain ⟨u, rfl⟩ := hy.int_is
  exact PyProof.Rows.ge_int (h _ _ (Ext.refl _ _) V.bool)
theorem Cmp.eq (a b : Int) : Cmp prog w .Eq (.int a) (.int b) (a == b) := by
  intro Ar mu s x y _ _ hx hy Q E h
  obtain ⟨t, rfl⟩ := hx.int_is; obtain ⟨u, rfl⟩ := hy.int_is
  exact PyProof.Rows.eq_int (h _ _ (Ext.refl _ _) V.bool)
theorem Cmp.ne (a b : Int) : Cmp prog w .NotEq (.int a) (.int b) (a != b) := by
  intro Ar mu s x y _ _ hx hy Q E h
  obtain ⟨t, rfl⟩ := hx.int_is; obtain ⟨u, rfl⟩ := hy.int_is
  exact PyProof.Rows.ne_int (h _ _ (Ext.refl _ _) V.bool)
theorem Cmp.seq (a b : Str) : Cmp prog w .Eq (.str a) (.str b) (a == b) := by
  intro Ar mu s x y _ _ hx hy Q E h
  obtain ⟨t, rfl⟩ := hx.str_is; obtain ⟨u, rfl⟩ := hy.str_is
  exact PyProof.Rows.eq_str (h _ _ (Ext.refl _ _) V.bool)
theorem Cmp.snotin (a b : Str) : Cmp prog w .NotIn (.str a) (.str b) (!Txt.contains b a) := by
  intro Ar mu s x y _ _ hx hy Q E h
  obtain ⟨t, rfl⟩ := hx.str_is; obtain ⟨u, rfl⟩ := hy.str_is
  exact SB.notContains (h _ _ (Ext.refl _ _) V.bool)
theorem Cmp.is_bool (a b : Bool) : Cmp prog w .Is (.bool a) (.bool b) (a == b) := by
  intro Ar mu s x y _ _ hx hy Q E h
  obtain rfl := hx.bool_is; obtain rfl := hy.bool_is
  refine wpAny_is_plain rfl ?_
  rw [show (Value.bool a == Value.bool b) = (a == b) by cases a <;> cases b <;> rfl]
  exact h _ _ (Ext.refl _ _) V.bool
theorem Cmp.isnot_bool (a b : Bool) : Cmp prog w .IsNot (.bool a) (.bool b) (!(a == b)) := by
  intro Ar mu s x y _ _ hx hy Q E h
  obtain rfl := hx.bool_is; obtain rfl := hy.bool_is
  refine wpAny_isNot_plain rfl ?_
  rw [show (Value.bool a == Value.bool b) = (a == b) by cases a <;> cases b <;> rfl]
  exact h _ _ (Ext.refl _ _) V.bool
theorem Cmp.is_none_none : Cmp prog w .Is .none .none true := by
  intro Ar mu s x y _ _ hx hy Q E h
  obtain rfl := hx.none_is; obtain rfl := hy.none_is
  exact wpAny_is_plain rfl (h _ _ (Ext.refl _ _) V.bool)
theorem Cmp.is_int_none (a : Int) : Cmp prog w .Is (.int a) .none false := by
  intro Ar mu s x y _ _ hx hy Q E h
  obtain ⟨t, rfl⟩ := hx.int_is; obtain rfl := hy.none_is
  exact wpAny_is_plain rfl (h _ _ (Ext.refl _ _) V.bool)
mutual
def AV.py : AV → PyData
  | .none => .none
  | .bool b => .bool b
  | .int i => .int i
  | .str x => .str x
  | .list xs => .list (AV.pys xs)
  | .tup xs => .tuple (AV.pys xs)
  | .own _ => .none
  | .ref _ => .dict []
  | .inst _ _ => .dict []
def AV.pys : List AV → List PyData
  | [] => []
  | x :: xs => x.py :: AV.pys xs
end
mutual
theorem V.reads {h : Heap} {mu : List Addr} : ∀ (A : AV) (v : Value), A.py.canLay0 = true → V (fz h mu) A v → ∃ as, Reads h v A.py as
  | .none, v, _, x => by obtain rfl := x.none_is; exact ⟨_, .none⟩
  | .bool b, v, _, x => by obtain rfl := x.bool_is; exact ⟨_, .bool b⟩
  | .int i, v, _, x => by obtain ⟨t, rfl⟩ := x.int_is; exact ⟨_, .int i t⟩
  | .str y, v, _, x => by obtain ⟨t, rfl⟩ := x.str_is; exact ⟨_, .str y t⟩
  | .list xs, v, c, x => by
    obtain ⟨a, n, vs, rfl, e, k⟩ := x.list_is
    obtain ⟨as, r⟩ := Vs.reads xs vs (by simpa [AV.py, PyData.canLay0] using c) k
    rw [AV.py]
    exact ⟨_, .list (fz.get e) rfl rfl (by simpa using r)⟩
  | .tup xs, v, c, x => by
    obtain ⟨a, n, vs, rfl, e, k⟩ := x.tup_is
    obtain ⟨as, r⟩ := Vs.reads xs vs (by simpa [AV.py, PyData.canLay0] using c) k
    rw [AV.py]
    exact ⟨_, .tuple (fz.get e) rfl rfl (by simpa using r)⟩
  | .own _, v, _, x => by simp [V] at x
  | .ref _, v, c, x => by simp [AV.py, PyData.canLay0] at c
  | .inst _ _, v, c, x => by simp [AV.py, PyData.canLay0] at c
theorem Vs.reads {h : Heap} {mu : List Addr} : ∀ (As : List AV) (vs : List Value), PyData.canLayAll0 (AV.pys As) = true → Vs (fz h mu) As vs → ∃ as, ReadsAll h vs (AV.pys As) as
  | [], vs, _, x => by obtain rfl := x.nil_is; exact ⟨_, .nil⟩
  | A :: As, vs, c, x => by
    obtain ⟨v, r, rfl, k, k'⟩ := x.cons_is
    simp only [AV.pys, PyData.canLayAll0, Bool.and_eq_true] at c
    obtain ⟨a, q⟩ := V.reads A v c.1 k
    obtain ⟨b, q'⟩ := Vs.reads As r c.2 k'
    rw [AV.pys]
    exact ⟨_, .cons q q'⟩
end
theorem Cmp.deq {A B : AV} {r : Bool} (ha : SeqAt.shaped A.py = true) (hb : SeqAt.shaped B.py = true) (e : PyData.eqv A.py B.py = r) : Cmp prog w .Eq A B r := by
  intro Ar mu s x y rm _ hx hy Q E h
  obtain ⟨as, q⟩ := V.reads A x (SeqAt.canLay_of_shaped ha) hx
  obtain ⟨bs, q'⟩ := V.reads B y (SeqAt.canLay_of_shaped hb) hy
  subst e
  exact eq_dataH q q' ha hb (by have := rm.un; omega) (h _ _ (Ext.refl _ _) V.bool)
theorem Cmp.dne {A B : AV} {r : Bool} (ha : SeqAt.shaped A.py = true) (hb : SeqAt.shaped B.py = true) (e : (!PyData.eqv A.py B.py) = r) : Cmp prog w .NotEq A B r := by
  intro Ar mu s x y rm _ hx hy Q E h
  obtain ⟨as, q⟩ := V.reads A x (SeqAt.canLay_of_shaped ha) hx
  obtain ⟨bs, q'⟩ := V.reads B y (SeqAt.canLay_of_shaped hb) hy
  subst e
  exact ne_dataH q q' ha hb (by have := rm.un; omega) (h _ _ (Ext.refl _ _) V.bool)
theorem one {g : Addr → Option Obj} {A : AV} {vs : List Value} (h : Vs g [A] vs) : ∃ v, vs = [v] ∧ V g A v := by
  obtain ⟨v, r, rfl, k, k'⟩ := h.cons_is
  rw [k'.nil_is]; exact ⟨v, rfl, k⟩
theorem two {g : Addr → Option Obj} {A B : AV} {vs : List Value} (h : Vs g [A, B] vs) : ∃ v u, vs = [v, u] ∧ V g A v ∧ V g B u := by
  obtain ⟨v, r, rfl, k, k'⟩ := h.cons_is
  obtain ⟨u, rfl, q⟩ := one k'; exact ⟨v, u, rfl, k, q⟩
theorem Bui.len_list (xs : List AV) (h63 : xs.length < 2 ^ 62) : Bui prog w "len" [.list xs] (.int xs.length) := by
  intro Ar mu s vs _ _ hv Q E h
  obtain ⟨v, rfl, k⟩ := one hv
  obtain ⟨a, n, ws, rfl, e, q⟩ := k.list_is
  have hl := q.len
  refine PyProof.Rows.len_list (isL (fz.get e)) (by simp; omega) ?_
  have := h (.int xs.length (s.toks + 1)) _ (Ext.tok (tk := s.toks + 1 + 1)) V.int
  simpa [hl] using this
theorem Bui.len_tup (xs : List AV) (h63 : xs.length < 2 ^ 62) : Bui prog w "len" [.tup xs] (.int xs.length) := by
  intro Ar mu s vs _ _ hv Q E h
  obtain ⟨v, rfl, k⟩ := one hv
  obtain ⟨a, n, ws, rfl, e, q⟩ := k.tup_is
  have hl := q.len
  refine PyProof.Rows.len_tuple ⟨_, fz.get e, rfl, _, rfl⟩ (by simp; omega) ?_
  have := h (.int xs.length (s.toks + 1)) _ (Ext.tok (tk := s.toks + 1 + 1)) V.int
  simpa [hl] using this
theorem Bui.len_str (x : Str) (h63 : x.length < 2 ^ 62) : Bui prog w "len" [.str x] (.int x.length) := by
  intro Ar mu s vs _ _ hv Q E h
  obtain ⟨v, rfl, k⟩ := one hv
  obtain ⟨t, rfl⟩ := k.str_is
  exact P.len_str (by omega) (h _ _ Ext.tok V.int)
theorem Bui.sum (ns : List Int) : Bui prog w "sum" [.list (ns.map .int)] (.int ns.sum) := by
  intro Ar mu s vs rm _ hv Q E h
  obtain ⟨v, rfl, k⟩ := one hv
  obtain ⟨a, n, ws, rfl, e, q⟩ := k.list_is
  have hi := q.ints
  obtain ⟨xs, ex⟩ := hi.allInts.items
  have hl := isL (fz.get e)
  rw [ex] at hl
  refine sum_intListG rm.hd hl fun h' tk t' hk => ?_
  have en : ns = xs.toList.map (·.1) := by rw [← hi.numsOf, ← nums_intItems, ← ex]
  have : preSum (numAt xs) xs.size = ns.sum := by
    rw [preSum_eq, List.take_of_length_le (by simp), en]
  rw [this]
  exact h _ _ (Ext.mk' hk) V.int
theorem Bui.max (ns : List Int) (M : Int) (hm : M ∈ ns) (hle : ∀ a ∈ ns, a ≤ M) : Bui prog w "max" [.list (ns.map .int)] (.int M) := by
  intro Ar mu s vs rm _ hv Q E h
  obtain ⟨v, rfl, k⟩ := one hv
  obtain ⟨a, n, ws, rfl, e, q⟩ := k.list_is
  have hi := q.ints
  obtain ⟨xs, ex⟩ := hi.allInts.items
  have hl := isL (fz.get e)
  rw [ex] at hl
  have hns : ns = xs.toList.map (·.1) := by rw [← hi.numsOf, ← nums_intItems, ← ex]
  have hne : 0 < ns.length := List.length_pos_of_mem hm
  have hsz : 0 < xs.size := by
    have h3 := hne; rw [hns, List.length_map, Array.length_toList] at h3; exact h3
  refine max_intList rm.hd hl hsz fun v h' tk hv hk => ?_
  obtain ⟨t, rfl⟩ := intItems_at hv
  obtain ⟨h1, h2⟩ := argBest_gt (numAt xs) (xs.size - 1)
  have e1 : numAt xs (argBest (fun i j => decide (numAt xs i > numAt xs j)) (xs.size - 1)) = M := by
    refine Int.le_antisymm (hle _ ?_) ?_
    · rw [hns, numAt_eq]; exact getD_mem (by rw [List.length_map, Array.length_toList]; omega)
    · rw [hns] at hm
      obtain ⟨j, hj, rfl⟩ := mem_getD hm
      rw [List.length_map, Array.length_toList] at hj
      rw [← numAt_eq]; exact h2 j (by omega)
  rw [e1]
  exact h _ _ (Ext.mk' hk) V.int
theorem Bui.min (ns : List Int) (M : Int) (hm : M ∈ ns) (hle : ∀ a ∈ ns, M ≤ a) : Bui prog w "min" [.list (ns.map .int)] (.int M) := by
  intro Ar mu s vs rm _ hv Q E h
  obtain ⟨v, rfl, k⟩ := one hv
  obtain ⟨a, n, ws, rfl, e, q⟩ := k.list_is
  have hi := q.ints
  obtain ⟨xs, ex⟩ := hi.allInts.items
  have hl := isL (fz.get e)
  rw [ex] at hl
  have hns : ns = xs.toList.map (·.1) := by rw [← hi.numsOf, ← nums_intItems, ← ex]
  have hne : 0 < ns.length := List.length_pos_of_mem hm
  have hsz : 0 < xs.size := by
    have h3 := hne; rw [hns, List.length_map, Array.length_toList] at h3; exact h3
  refine min_intList rm.hd hl hsz fun v h' tk hv hk => ?_
  obtain ⟨t, rfl⟩ := intItems_at hv
  obtain ⟨h1, h2⟩ := argBest_lt (numAt xs) (xs.size - 1)
  have e1 : numAt xs (argBest (fun i j => decide (numAt xs i < numAt xs j)) (xs.size - 1)) = M := by
    refine Int.le_antisymm ?_ (hle _ ?_)
    · rw [hns] at hm
      obtain ⟨j, hj, rfl⟩ := mem_getD hm
      rw [List.length_map, Array.length_toList] at hj
      rw [← numAt_eq]; exact h2 j (by omega)
    · rw [hns, numAt_eq]; exact getD_mem (by rw [List.length_map, Array.length_toList]; omega)
  rw [e1]
  exact h _ _ (Ext.mk' hk) V.int
theorem Bui.max2 (a b : Int) : Bui prog w "max" [.int a, .int b] (.int (if b > a then b else a)) := by
  intro Ar mu s vs rm _ hv Q E h
  obtain ⟨v, u, rfl, k1, k2⟩ := two hv
  obtain ⟨t, rfl⟩ := k1.int_is; obtain ⟨t', rfl⟩ := k2.int_is
  refine max_two_ints rm.hd fun h' tk hk => ?_
  by_cases c : b > a
  · rw [if_pos c]; exact h _ _ (Ext.mk' hk) (by rw [if_pos c]; exact V.int)
  · rw [if_neg c]; exact h _ _ (Ext.mk' hk) (by rw [if_neg c]; exact V.int)
theorem Bui.min2 (a b : Int) : Bui prog w "min" [.int a, .int b] (.int (if b < a then b else a)) := by
  intro Ar mu s vs rm _ hv Q E h
  obtain ⟨v, u, rfl, k1, k2⟩ := two hv
  obtain ⟨t, rfl⟩ := k1.int_is; obtain ⟨t', rfl⟩ := k2.int_is
  refine min_two_ints rm.hd fun h' tk hk => ?_
  by_cases c : b < a
  · rw [if_pos c]; exact h _ _ (Ext.mk' hk) (by rw [if_pos c]; exact V.int)
  · rw [if_neg c]; exact h _ _ (Ext.mk' hk) (by rw [if_neg c]; exact V.int)
theorem Bui.sorted_ints (ns ms : List Int) (h64 : ns.length < 64) (hp : ms.Perm ns) (hs : ms.Pairwise (· ≤ ·)) : Bui prog w "sorted" [.list (ns.map .int)] (.list (ms.map .int)) := by
  intro Ar mu s vs rm m hv Q E h
  obtain ⟨v, rfl, k⟩ := one hv
  obtain ⟨a, n, ws, rfl, e, q⟩ := k.list_is
  have hl := q.len
  refine PyProof.Rows.sorted_ints (isL (fz.get e)) q.ints (by rw [hl, List.length_map]; exact h64) fun out ns' a1 a2 a3 => ?_
  obtain ⟨ep, he⟩ := sortedAll_at s.heap ws out
  have em : ns' = ms := (a2.trans hp.symm).eq_of_pairwise (fun x y _ _ h1 h2 => Int.le_antisymm h1 h2) a3 hs
  subst em
  have kp : Kp s.heap (sortedAll s.heap ws out) := fun _ _ => sortedAll_old
  refine h _ _ (Ext.mk' kp) (V.list (n := ep) (vs := out.toList) (fz.of he (m.new ?_)) (Vs.of_ints a1))
  cases e' : s.heap.get? (s.heap.objs.size + 1) with
  | none => rfl
  | some o => exact absurd (Heap.lt_size e') (Nat.not_lt.mpr (Nat.le_succ _))
theorem Vs.strs {g : Addr → Option Obj} : ∀ {ns : List Str} {vs : List Value}, Vs g (ns.map AV.str) vs → StrsAre vs ns
  | [], vs, h => by rw [h.nil_is]; exact .nil
  | n :: ns, vs, h => by
    obtain ⟨v, r, rfl, q, h'⟩ := h.cons_is
    obtain ⟨t, rfl⟩ := q.str_is
    exact .cons n t h'.strs
theorem Vs.of_strs {g : Addr → Option Obj} : ∀ {ns : List Str} {vs : List Value}, StrsAre vs ns → Vs g (ns.map AV.str) vs
  | _, _, .nil => Vs.nil
  | _, _, .cons n t h => Vs.cons V.str (Vs.of_strs h)
theorem Bui.sorted_strs (ss : List Str) (R : List Str) (h64 : ss.length < 64) (hu : ∀ ms : List Str, ms.Perm ss → sortedS ms = true → ms = R) : Bui prog w "sorted" [.list (ss.map .str)] (.list (R.map .str)) := by
  intro Ar mu s vs rm m hv Q E h
  obtain ⟨v, rfl, k⟩ := one hv
  obtain ⟨a, n, ws, rfl, e, q⟩ := k.list_is
  have hl := q.len
  refine PyProof.Rows.sorted_strs (isL (fz.get e)) q.strs (by rw [hl, List.length_map]; exact h64) fun out ns' a1 a2 a3 => ?_
  obtain ⟨ep, he⟩ := sortedAll_at s.heap ws out
  have em : ns' = R := hu ns' a2 a3
  subst em
  have kp : Kp s.heap (sortedAll s.heap ws out) := fun _ _ => sortedAll_old
  refine h _ _ (Ext.mk' kp) (V.list (n := ep) (vs := out.toList) (fz.of he (m.new ?_)) (Vs.of_strs a1))
  cases e' : s.heap.get? (s.heap.objs.size + 1) with
  | none => rfl
  | some o => exact absurd (Heap.lt_size e') (Nat.not_lt.mpr (Nat.le_succ _))
theorem Bui.count (ns : List Int) (k : Int) : Bui prog w "list.count" [.list (ns.map .int), .int k] (.int (ns.count k)) := by
  intro Ar mu s vs rm m hv Q E h
  obtain ⟨v, u, rfl, k1, k2⟩ := two hv
  obtain ⟨t, rfl⟩ := k2.int_is
  obtain ⟨a, n, ws, rfl, e, q⟩ := k1.list_is
  exact count_list_ints (isL (fz.get e)) q.ints (h _ _ Ext.tok V.int)
theorem strVals {vs : List Value} {ss : List Str} (h : StrsAre vs ss) : ∃ l : List (Str × Tok), vs = strValues l ∧ l.map (·.1) = ss := by
  induction h with
  | nil => exact ⟨[], rfl, rfl⟩
  | cons y t _ ih => obtain ⟨l, e1, e2⟩ := ih; exact ⟨(y, t) :: l, by simp [strValues] at e1 ⊢; exact e1, by simp [e2]⟩
theorem Bui.join (x : Str) (ss : List Str) (hok : JoinOk x ss = true) : Bui prog w "str.join" [.str x, .list (ss.map .str)] (.str (Txt.join x ss)) := by
  intro Ar mu s vs rm m hv Q E h
  obtain ⟨v, u, rfl, k1, k2⟩ := two hv
  obtain ⟨t, rfl⟩ := k1.str_is
  obtain ⟨a, n, ws, rfl, e, q⟩ := k2.list_is
  obtain ⟨l, rfl, e2⟩ := strVals q.strs
  exact PySem.SC.join (isL (fz.get e)) e2 hok fun _ _ => h _ _ Ext.tok V.str
theorem Vs.of_strVals {g : Addr → Option Obj} : ∀ (l : List (Str × Tok)), Vs g ((l.map (·.1)).map AV.str) (strValues l)
  | [] => Vs.nil
  | p :: l => Vs.cons V.str (Vs.of_strVals l)
open Builtin Builtin.Str in
theorem Bui.split (x y : Str) (hy : (y.length == 0) = false) (hx : x.length + 2 ≤ sizeLine) : Bui prog w "str.split" [.str x, .str y] (.list ((Txt.split x y).map .str)) := by
  intro Ar mu s vs rm m hv Q E h
  obtain ⟨v, r, rfl, k1, k2⟩ := two hv
  obtain ⟨t, rfl⟩ := k1.str_is
  obtain ⟨u, rfl⟩ := k2.str_is
  have fin : ∀ (l : List (Str × Tok)) (tk : Nat), l.map (·.1) = Txt.split x y →
      Q (.ref s.heap.objs.size) { s with toks := tk, heap := s.heap.push { cls := .type "list", data := .seq (strValues l).toArray } } := fun l tk e => by
    refine h _ _ (Ext.push (tk := tk)) (V.list (n := 0) (vs := strValues l) (fz_push m rfl) ?_)
    rw [← e]; exact Vs.of_strVals l
  have many : (partsBetween x (occurrences x y 0 x.length (x.length + 1)) y.length).length ≤ sizeLine := by
    have := StrLaws.occ_length_le x y 0 x.length (x.length + 1)
    rw [length_partsBetween]; omega
  by_cases c1 : (decide (x.length < y.length) || decide (strKind x < strKind y)) = true
  · exact call_meets F.slot_str_split (typeIs_str _ _ _) F.entry_str_split (F.args_str_split_2 _ _) (meets_str_split_cannot_occur x y t u c1)
      (fin [(x, t)] s.toks (if_pos c1).symm)
  · have c1' := Bool.eq_false_iff.mpr c1
    by_cases c2 : (occurrences x y 0 x.length (x.length + 1)).isEmpty = true
    · exact call_meets F.slot_str_split (typeIs_str _ _ _) F.entry_str_split (F.args_str_split_2 _ _) (meets_str_split_not_found x y t u c1' hy c2)
        (fin [(x, t)] s.toks ((if_neg c1).trans (if_pos c2)).symm)
    · refine call_meets F.slot_str_split (typeIs_str _ _ _) F.entry_str_split (F.args_str_split_2 _ _) (meets_str_split_sep x y t u c1' hy (Bool.eq_false_iff.mpr c2) (by omega) many) ?_
      have := fin (numbered s.toks (partsBetween x (occurrences x y 0 x.length (x.length + 1)) y.length)) (s.toks + (partsBetween x (occurrences x y 0 x.length (x.length + 1)) y.length).length)
        ((numbered_texts _ _).trans ((if_neg c1).trans (if_neg c2)).symm)
      rw [← strsFrom_eq] at this
      exact this
theorem Tup.of_list (xs : List AV) (hs : xs.length ≤ sizeLine) (Ar : Around) (mu : List Addr) (s : Shared) (vs : List Value) (m : MuOk mu s.heap) (hv : Vs (fz s.heap mu) [.list xs] vs) :
    Op prog w (call (.type "tuple") vs) mu Ar s (.tup xs) := by
  intro Q E h
  obtain ⟨v, rfl, k⟩ := one hv
  obtain ⟨a, n, ws, rfl, e, q⟩ := k.list_is
  refine call_tuple_list (isL (fz.get e)) (fun h' hk => ?_) (by simpa [q.len] using hs)
  have kp : Kp s.heap (h'.push (tupO ws 0)) := fun b o x => kpush _ _ _ _ (hk b o x)
  exact h _ _ (Ext.mk' kp) (V.tup (n := 0) (vs := ws) (fz_push (m.kp hk) rfl) (Vs.mono (fz.kp kp) _ _ q))
def Sub1 (A B R : AV) : Prop :=
  ∀ (Ar : Around) (mu : List Addr) (s : Shared) (a b : Value) (value slice : Expr), Rm Ar 0 → MuOk mu s.heap → V (fz s.heap mu) A a → V (fz s.heap mu) B b →
    (∀ o i, subscripted slice false o i = operate [o, i] (getItem o i)) → Op prog w (subscriptTail value slice a b) mu Ar s R
theorem Sub1.list (xs : List AV) (k : Int) (x : AV) (h0 : 0 ≤ k) (hk : k < 2 ^ 62) (hx : xs[k.toNat]? = some x) : Sub1 (prog := prog) (w := w) (.list xs) (.int k) x := by
  intro Ar mu s a b value slice rm m ha hb hs Q E h
  obtain ⟨a, n, ws, rfl, e, q⟩ := ha.list_is
  obtain ⟨u, rfl⟩ := hb.int_is
  obtain ⟨v, e1, e2⟩ := q.at hx
  exact tail_any (isL (fz.get e)).typeIs slot_list_getitem.lookup (wpAny_getItem_list (isL (fz.get e)) h0 (by omega) (by simpa using e1) (h _ _ (Ext.refl _ _) e2)) (hs _ _)
theorem Sub1.tup (xs : List AV) (k : Int) (x : AV) (h0 : 0 ≤ k) (hk : k < 2 ^ 62) (hx : xs[k.toNat]? = some x) : Sub1 (prog := prog) (w := w) (.tup xs) (.int k) x := by
  intro Ar mu s a b value slice rm m ha hb hs Q E h
  obtain ⟨a, n, ws, rfl, e, q⟩ := ha.tup_is
  obtain ⟨u, rfl⟩ := hb.int_is
  obtain ⟨v, e1, e2⟩ := q.at hx
  have ht : IsTup s.heap a ws.toArray := ⟨_, fz.get e, rfl, _, rfl⟩
  have hlt : k.toNat < ws.length := (List.getElem?_eq_some_iff.mp e1).1
  have hj : seqIndex? k ws.toArray.size = some k.toNat := by
    have h1 : ¬ k < 0 := by omega
    have h2 : (decide (0 ≤ k) && decide (k < (ws.length : Int))) = true := by simp; omega
    simp only [seqIndex?, h1, if_false, List.size_toArray, h2, if_true]
  exact tail_any ht.typeIs PyProof.Rows.slot_tuple_getitem.lookup (PyProof.Rows.getItem_tuple ht (by omega) (by omega) hj (by simpa using e1) (h _ _ (Ext.refl _ _) e2)) (hs _ _)
def pick (xs : List AV) (lo hi st : Option Int) : List AV := (sliceRange (sliceBounds lo hi st xs.length).1 (sliceBounds lo hi st xs.length).2.1 (sliceBounds lo hi st xs.length).2.2).filterMap (xs[·]?)
theorem Vs.filterMap {g : Addr → Option Obj} {xs : List AV} {vs : List Value} (h : Vs g xs vs) : ∀ is : List Nat, Vs g (is.filterMap (xs[·]?)) (is.filterMap (vs[·]?))
  | [] => Vs.nil
  | i :: is => by
    rw [List.filterMap_cons, List.filterMap_cons]
    cases e : xs[i]? with
    | some x =>
      obtain ⟨v, e1, e2⟩ := h.at e
      rw [e1]; exact Vs.cons e2 (Vs.filterMap h is)
    | none =>
      have : vs[i]? = none := by
        rw [List.getElem?_eq_none_iff] at e ⊢
        rw [h.len]; exact e
      rw [this]; exact Vs.filterMap h is
inductive PartA : Option Int → AV → Prop
  | none : PartA none .none
  | int (i : Int) : PartA (some i) (.int i)
theorem PartA.is {g : Addr → Option Obj} {k : Option Int} {A : AV} {v : Value} (p : PartA k A) (h : V g A v) : IsPart v k := by
  cases p with
  | none => rw [h.none_is]; exact .none
  | int i => obtain ⟨t, rfl⟩ := h.int_is; exact .int i t
theorem slice_list (xs : List AV) (lo hi st : Option Int) (h0 : st ≠ some 0) (hsz : xs.length ≤ sizeLine) {Ar : Around} {mu : List Addr} {s : Shared} {a : Value} {value slice : Expr} {vl vu vs : Value} {sl : Addr}
    (m : MuOk mu s.heap) (ha : V (fz s.heap mu) (.list xs) a) (hsl : s.heap.IsSliceOf sl vl vu vs) (pl : IsPart vl lo) (pu : IsPart vu hi) (ps : IsPart vs st)
    {ops : List Value} (hs : subscripted slice false a (.ref sl) = operate ops (getItem a (.ref sl))) : Op prog w (subscriptTail value slice a (.ref sl)) mu Ar s (.list (pick xs lo hi st)) := by
  intro Q E h
  obtain ⟨a, n, ws, rfl, e, q⟩ := ha.list_is
  refine tail_any (isL (fz.get e)).typeIs slot_list_getitem.lookup (wpAny_getItem_list_slice (isL (fz.get e)) hsl pl pu ps h0 ?_ (by simpa [q.len] using hsz)) hs
  have e' : slicePick ws.toArray lo hi st = ((sliceRange (sliceBounds lo hi st xs.length).1 (sliceBounds lo hi st xs.length).2.1 (sliceBounds lo hi st xs.length).2.2).filterMap (ws[·]?)).toArray := by
    unfold slicePick
    simp [q.len]
  rw [e']
  exact h _ _ Ext.push' (V.list (fz_push m rfl) (Vs.mono (fz.kp (kpush _ _)) _ _ (q.filterMap _)))
end
end SC
namespace SC
open PySem PySem.Spec PySem.Calls PyProof.Rows PySem.W
section
variable (W : Wd) (p : Bool) (C : Fc) (ρ : Rho)
abbrev Wd.M (W : Wd) : Model := model W.prog W.w
def Ev (e : Expr) (R : AV) : Prop := ∀ (s : Shared) (Q : Value → Shared → Prop) (E : Value → Shared → Prop), Inv W C ρ s → (∀ v s', Ext p s s' → V (fz s'.heap C.mu) R v → Q v s') → wpAny W.M C.A (eval e C.env) Q E s
def Evs (es : List Expr) (Rs : List AV) : Prop := ∀ (pos : Pos) (s : Shared) (Q : List Value → Shared → Prop) (E : Value → Shared → Prop), Inv W C ρ s → (∀ vs s', Ext p s s' → Vs (fz s'.heap C.mu) Rs vs → Q vs s') → wpAny W.M C.A (spliced (backTo pos (starEach es C.env))) Q E s
def Tr (e : Expr) (b : Bool) : Prop := ∀ (s : Shared) (Q : Bool → Shared → Prop) (E : Value → Shared → Prop), Inv W C ρ s → (∀ s', Ext p s s' → Q b s') → wpAny W.M C.A (isTrue e C.env (eval e C.env)) Q E s
def AV.pl : AV → Bool
  | .own _ => false
  | _ => true
variable {W p C ρ}
theorem VO.pl {h : Heap} {x : Str} {A : AV} {v : Value} (y : VO C h x A v) (hp : A.pl = true) : V (fz h C.mu) A v := by
  cases A with
  | own => simp [AV.pl] at hp
  | _ => exact y
theorem Inv.mu {s : Shared} (I : Inv W C ρ s) : MuOk C.mu s.heap := I.mub
theorem Inv.ext {s s' : Shared} (I : Inv W C ρ s) (x : Ext p s s') : Inv W C ρ s' := I.kp x.kp
theorem Inv.B {s : Shared} (I : Inv W C ρ s) : W.B s.heap := W.Bk _ _ I.ent I.wf.bs
theorem Inv.G {s : Shared} (I : Inv W C ρ s) : Glob W.N W.mg W.mb W.defs W.consts W.objs W.names s.heap := W.BG _ I.B
theorem Ev.gen {e : Expr} {R : AV} (h : Ev W true C ρ e R) : Ev W p C ρ e R := fun s Q E I k => h s Q E I fun v s' x => k v s' x.of_true
theorem Ev.cint {i k pos} : Ev W p C ρ (.Constant (.int i) k pos) (.int i) := fun _ _ _ _ k => wpAny_Constant_int (k _ _ Ext.tok V.int)
theorem Ev.cstr {i k pos} : Ev W p C ρ (.Constant (.str i) k pos) (.str i) := fun _ _ _ _ k => Constant_str (k _ _ Ext.tok V.str)
theorem Ev.cbool {i k pos} : Ev W p C ρ (.Constant (.bool i) k pos) (.bool i) := fun s _ _ _ k => fun _ _ _ => k (.bool i) s (Ext.refl _ _) V.bool
theorem Ev.cnone {k pos} : Ev W p C ρ (.Constant .none k pos) .none := fun s _ _ _ k => fun _ _ _ => k .none s (Ext.refl _ _) V.none
theorem Ev.loc {x : Str} {pos : Pos} {R : AV} (hl : ρ.lookup x = some R) (hk : C.env.kindOf x = some .local) (hp : R.pl = true := by rfl) (hd : (x == ("__debug__" : Str)) = false := by decide) : Ev W p C ρ (.Name x pos) R := by
  intro s Q E I k
  obtain ⟨m, hn, hm⟩ := I.ns
  obtain ⟨v, e1, e2⟩ := hm x R hl hk
  exact wpAny_Name (wpAny_loadName_local I.wf.kind hk hn e1 (k _ _ (Ext.refl _ _) (e2.pl hp))) hd
theorem Ev.cel {x : Str} {pos : Pos} {R : AV} (hl : ρ.lookup x = some R) (hk : C.env.kindOf x = some .cell) (hd : (x == ("__debug__" : Str)) = false := by decide) : Ev W p C ρ (.Name x pos) R := by
  intro s Q E I k
  obtain ⟨c, v, e1, e2, e3⟩ := I.cl x R hl (by rw [hk]; simp)
  exact wpAny_Name (wpAny_loadName_cell I.wf.kind hk e1 e2 (k _ _ (Ext.refl _ _) e3)) hd
theorem Ev.fre {x : Str} {pos : Pos} {R : AV} (hl : ρ.lookup x = some R) (hk : C.env.kindOf x = some .free) (hd : (x == ("__debug__" : Str)) = false := by decide) (hn : (x == ("__classdict__" : Str)) = false := by decide) : Ev W p C ρ (.Name x pos) R := by
  intro s Q E I k
  obtain ⟨c, v, e1, e2, e3⟩ := I.cl x R hl (by rw [hk]; simp)
  exact wpAny_Name (wpAny_loadName_free I.wf.kind hk e1 e2 (k _ _ (Ext.refl _ _) e3) hn) hd
theorem Ev.gstr {x : Str} {pos : Pos} {y : Str} (hl : (x, PyData.str y) ∈ W.consts) (hk : C.env.kindOf x = some .globalImplicit) (hd : (x == ("__debug__" : Str)) = false := by decide) : Ev W p C ρ (.Name x pos) (.str y) := by
  intro s Q E I k
  obtain ⟨v, e1, e2⟩ := I.G.bound _ hl
  obtain ⟨t, rfl⟩ := e2.str
  exact Name_function_global I.wf.kind hk (loadGlobal_global (by rw [I.wf.gl]; exact I.G.g) e1 (k _ _ (Ext.refl _ _) V.str)) hd
theorem Ev.bin {l r : Expr} {op : Operator} {pos : Pos} {A B R : AV} (hl : Ev W p C ρ l A) (hr : Ev W p C ρ r B) (hb : Bin W.prog W.w op A B R) : Ev W p C ρ (.BinOp l op r pos) R := by
  intro s Q E I k
  refine wpAny_BinOp (hl s _ _ I fun a s1 x1 v1 => hr s1 _ _ (I.ext x1) fun b s2 x2 v2 => ?_)
  exact hb C.A C.mu s2 a b (I.wf.rm.le (by omega)) (((I.ext x1).ext x2).mu) (V.mono (fz.kp x2.kp) _ _ v1) v2 _ _ fun v s3 x3 v3 => k v s3 ((x1.trans x2).trans x3.of_true) v3
theorem Ev.cmp {l r : Expr} {op : CmpOp} {pos : Pos} {A B : AV} {b : Bool} (hl : Ev W p C ρ l A) (hr : Ev W p C ρ r B) (hb : Cmp W.prog W.w op A B b) (hm : behindInMarks op r = false := by with_unfolding_all rfl) : Ev W p C ρ (.Compare l [op] [r] pos) (.bool b) := by
  intro s Q E I k
  refine wpAny_Compare1 (hl s _ _ I fun a s1 x1 v1 => hr s1 _ _ (I.ext x1) fun b s2 x2 v2 => ?_) hm
  exact hb C.A C.mu s2 a b (I.wf.rm.le (by omega)) (((I.ext x1).ext x2).mu) (V.mono (fz.kp x2.kp) _ _ v1) v2 _ _ fun v s3 x3 v3 => k v s3 ((x1.trans x2).trans x3.of_true) v3
theorem Tr.cmp {l r : Expr} {op : CmpOp} {pos : Pos} {A B : AV} {b : Bool} (hl : Ev W p C ρ l A) (hr : Ev W p C ρ r B) (hb : Cmp W.prog W.w op A B b) (hm : behindInMarks op r = false := by with_unfolding_all rfl) : Tr W p C ρ (.Compare l [op] [r] pos) b := by
  intro s Q E I k
  refine wpAny_isTrue_Compare1 (hl s _ _ I fun a s1 x1 v1 => hr s1 _ _ (I.ext x1) fun b s2 x2 v2 => ?_) hm
  refine hb C.A C.mu s2 a b (I.wf.rm.le (by omega)) (((I.ext x1).ext x2).mu) (V.mono (fz.kp x2.kp) _ _ v1) v2 _ _ fun v s3 x3 v3 => ?_
  obtain rfl := v3.bool_is
  exact wpAny_truthy_bool (k s3 ((x1.trans x2).trans x3.of_true))
theorem Tr.not {e : Expr} {pos : Pos} {b : Bool} (h : Tr W p C ρ e b) : Tr W p C ρ (.UnaryOp .Not e pos) (!b) := by
  intro s Q E I k
  exact isTrue_not (h s _ _ I fun s' x => k s' x)
theorem Tr.and2 {a b : Expr} {pos : Pos} {x y : Bool} (ha : Tr W p C ρ a x) (hb : x = true → Tr W p C ρ b y) : Tr W p C ρ (.BoolOp .And [a, b] pos) (x && y) := by
  intro s Q E I k
  refine isTrue_and (ha s _ _ I fun s1 x1 => ?_)
  cases x with
  | false => exact k s1 x1
  | true =>
    refine isTrue_and (hb rfl s1 _ _ (I.ext x1) fun s2 x2 => ?_)
    cases y with
    | false => exact k s2 (x1.trans x2)
    | true => exact isTrue_and_nil (k s2 (x1.trans x2))
theorem Ev.ifexp {t a b : Expr} {pos : Pos} {c : Bool} {R : AV} (ht : Tr W p C ρ t c) (h1 : c = true → Ev W p C ρ a R) (h2 : c = false → Ev W p C ρ b R) : Ev W p C ρ (.IfExp t a b pos) R := by
  intro s Q E I k
  refine wpAny_IfExp (ht s _ _ I fun s1 x1 => ?_)
  cases c with
  | true => exact h1 rfl s1 _ _ (I.ext x1) fun v s2 x2 h => k v s2 (x1.trans x2) h
  | false => exact h2 rfl s1 _ _ (I.ext x1) fun v s2 x2 h => k v s2 (x1.trans x2) h
theorem Evs.nil : Evs W p C ρ [] [] := fun _ _ _ _ _ k => args_nil (k _ _ (Ext.refl _ _) Vs.nil)
theorem Evs.cons {e : Expr} {es : List Expr} {R : AV} {Rs : List AV} (h : Ev W p C ρ e R) (hs : Evs W p C ρ es Rs) (he : starEach (e :: es) C.env = (false, eval e C.env) :: starEach es C.env := by rfl) : Evs W p C ρ (e :: es) (R :: Rs) := by
  intro pos s Q E I k
  refine args_cons (h s _ _ I fun v s1 x1 v1 => hs pos s1 _ _ (I.ext x1) fun vs s2 x2 v2 => ?_) he
  exact k _ _ (x1.trans x2) (Vs.cons (V.mono (fz.kp x2.kp) _ _ v1) v2)
theorem Ev.listd {es : List Expr} {Rs : List AV} {pos : Pos} (h : Evs W p C ρ es Rs) (hs : Rs.length ≤ sizeLine) : Ev W p C ρ (.List es pos) (.list Rs) := by
  intro s Q E I k
  refine List_ (h pos s _ _ I fun vs s1 x1 v1 => ?_)
  exact wpAny_newObj_type (k _ _ (x1.trans Ext.push') (V.list (n := 0) (vs := vs) (fz_push (I.ext x1).mu rfl) (Vs.mono (fz.kp (kpush _ _)) _ _ v1))) (by show vs.toArray.size ≤ sizeLine; rw [List.size_toArray, v1.len]; exact hs)
theorem Ev.tupd {es : List Expr} {Rs : List AV} {pos : Pos} {q : Nat} (h : Evs W p C ρ es Rs) (hs : Rs.length ≤ sizeLine) : Ev W p C ρ (.Tuple es q pos) (.tup Rs) := by
  intro s Q E I k
  refine Tuple_ (h pos s _ _ I fun vs s1 x1 v1 => ?_)
  exact wpAny_newObj_type (k _ _ (x1.trans Ext.push') (V.tup (n := 0) (vs := vs) (fz_push (I.ext x1).mu rfl) (Vs.mono (fz.kp (kpush _ _)) _ _ v1))) (by show vs.toArray.size ≤ sizeLine; rw [List.size_toArray, v1.len]; exact hs)
theorem Ev.sub1 {a b : Expr} {pos : Pos} {A B R : AV} (ha : Ev W p C ρ a A) (hb : Ev W p C ρ b B) (h : Sub1 (prog := W.prog) (w := W.w) A B R) (hs : ∀ o i, subscripted b false o i = operate [o, i] (getItem o i) := by intro _ _; rfl) : Ev W p C ρ (.Subscript a b pos) R := by
  intro s Q E I k
  refine Subscript_ (ha s _ _ I fun a s1 x1 v1 => hb s1 _ _ (I.ext x1) fun b s2 x2 v2 => ?_)
  exact h C.A C.mu s2 a b _ _ (I.wf.rm.le (by omega)) (((I.ext x1).ext x2).mu) (V.mono (fz.kp x2.kp) _ _ v1) v2 hs _ _ fun v s3 x3 v3 => k v s3 ((x1.trans x2).trans x3.of_true) v3
theorem Ev.neg {e : Expr} {pos : Pos} {i : Int} (h : Ev W p C ρ e (.int i)) : Ev W p C ρ (.UnaryOp .USub e pos) (.int (-i)) := by
  intro s Q E I k
  rw [arm_eval_UnaryOp]
  refine wpAny_bind (h s _ _ I fun v s1 x1 v1 => wpAny_bind (wpAny_standAt (wpAny_holding ?_)))
  obtain ⟨t, rfl⟩ := v1.int_is
  exact PyProof.Rows.neg_int (k _ _ (x1.trans Ext.tok) V.int)
def Pt (e : Option Expr) (k : Option Int) : Prop := ∀ (s : Shared) (Q : Value → Shared → Prop) (E : Value → Shared → Prop), Inv W C ρ s → (∀ v s', Ext p s s' → IsPart v k → Q v s') → wpAny W.M C.A (evalPart e C.env) Q E s
theorem Pt.none : Pt (W := W) (p := p) (C := C) (ρ := ρ) none none := fun _ _ _ _ k => evalPart_none_step (k _ _ (Ext.refl _ _) .none)
theorem Pt.some {e : Expr} {i : Int} (h : Ev W p C ρ e (.int i)) : Pt (W := W) (p := p) (C := C) (ρ := ρ) (some e) (some i) := fun s _ _ I k => evalPart_some_step (h s _ _ I fun v s1 x1 v1 => by
  obtain ⟨t, rfl⟩ := v1.int_is; exact k _ _ x1 (.int i t))
set_option maxRecDepth 100000 in
theorem Ev.slice {a : Expr} {lo hi st : Option Expr} {pos q : Pos} {xs : List AV} {l h t : Option Int} (ha : Ev W p C ρ a (.list xs)) (h1 : Pt (W := W) (p := p) (C := C) (ρ := ρ) lo l) (h2 : Pt (W := W) (p := p) (C := C) (ρ := ρ) hi h) (h3 : Pt (W := W) (p := p) (C := C) (ρ := ρ) st t)
    (h0 : t ≠ Option.some 0) (hsz : xs.length ≤ sizeLine) : Ev W p C ρ (.Subscript a (.Slice lo hi st q) pos) (.list (pick xs l h t)) := by
  intro s Q E I k
  refine Subscript_ (ha s _ _ I fun av s1 x1 v1 => wpAny_Slice (h1 s1 _ _ (I.ext x1) fun vl s2 x2 p1 => h2 s2 _ _ ((I.ext x1).ext x2) fun vu s3 x3 p2 => h3 s3 _ _ (((I.ext x1).ext x2).ext x3) fun vs s4 x4 p3 => ?_))
  have x : Ext p s4 { s4 with heap := s4.heap.push { cls := .type "slice", data := .fields #[vl, vu, vs] } } := Ext.push'
  have I4 := ((((I.ext x1).ext x2).ext x3).ext x4)
  have vl' := V.mono (fz.kp (((x2.trans x3).trans x4).trans x).kp) _ _ v1
  have hs : ∃ ops, subscripted (.Slice lo hi st q) false av (.ref s4.heap.objs.size) = operate ops (getItem av (.ref s4.heap.objs.size)) := by
    cases st with
    | none => exact ⟨_, rfl⟩
    | some e => exact ⟨_, rfl⟩
  obtain ⟨ops, hs⟩ := hs
  have key := slice_list (prog := W.prog) (w := W.w) (Ar := C.A) (mu := C.mu) (s := { s4 with heap := s4.heap.push { cls := .type "slice", data := .fields #[vl, vu, vs] } }) (value := a) (slice := .Slice lo hi st q) xs l h t h0 hsz (I4.ext x).mu vl' (Heap.IsSliceOf.new s4.heap vl vu vs) p1 p2 p3 hs
  refine key Q E fun v s5 x5 v5 => ?_
  exact k v s5 (((((x1.trans x2).trans x3).trans x4).trans x).trans x5.of_true) v5
theorem Ev.bcall {x : Str} {id : String} {e : Expr} {es : List Expr} {pos pos' : Pos} {As : List AV} {R : AV} (hs : Evs W p C ρ (e :: es) As) (hb : Bui W.prog W.w id As R)
    (hv : bootBuiltins x = some (.builtin id)) (hk : C.env.kindOf x = some .globalImplicit) (hfree : x ∉ W.names)
    (hboot : x ∉ bootMainNames := by decide) (hn : x ≠ "__name__" := by decide) (hd : (x == ("__debug__" : Str)) = false := by decide)
    (he : starEach (e :: es) C.env = (false, eval e C.env) :: starEach es C.env := by rfl) (hplain : (backTo pos (starEach es C.env)).any (·.1) = false := by rfl) : Ev W p C ρ (.Call (.Name x pos') (e :: es) [] pos) R := by
  intro s Q E I k
  refine Call_ (Name_function_global I.wf.kind hk (loadGlobal_builtin (by rw [I.wf.gl]; exact I.G.g) (I.G.free x hfree hboot) (by rw [I.wf.bi]; exact I.G.b) ((I.G.builtins x hn).trans hv) ?_) hd)
  refine callWith_builtin1 (hs pos s _ _ I fun vs s1 x1 v1 => ?_) he hplain
  exact hb C.A C.mu s1 vs (I.wf.rm.le (by omega)) (I.ext x1).mu v1 _ _ fun v s2 x2 v2 => k v s2 (x1.trans x2.of_true) v2
theorem Ev.tcall {x : Str} {e : Expr} {pos pos' : Pos} {xs : List AV} (hs : Ev W p C ρ e (.list xs)) (hz : xs.length ≤ sizeLine)
    (hv : bootBuiltins x = some (.type "tuple")) (hk : C.env.kindOf x = some .globalImplicit) (hfree : x ∉ W.names)
    (hboot : x ∉ bootMainNames := by decide) (hn : x ≠ "__name__" := by decide) (hd : (x == ("__debug__" : Str)) = false := by decide)
    (he : starEach [e] C.env = (false, eval e C.env) :: starEach [] C.env := by rfl) : Ev W p C ρ (.Call (.Name x pos') [e] [] pos) (.tup xs) := by
  intro s Q E I k
  refine Call_ (Name_function_global I.wf.kind hk (loadGlobal_builtin (by rw [I.wf.gl]; exact I.G.g) (I.G.free x hfree hboot) (by rw [I.wf.bi]; exact I.G.b) ((I.G.builtins x hn).trans hv) ?_) hd)
  refine callWith_type1 ((Evs.cons hs Evs.nil he) pos s _ _ I fun vs s1 x1 v1 => ?_) he
  exact Tup.of_list xs hz C.A C.mu s1 vs (I.ext x1).mu v1 _ _ fun v s2 x2 v2 => k v s2 (x1.trans x2.of_true) v2
def Pln (T : String) (A : AV) : Prop := ∀ (s : Shared) (mu : List Addr) (v : Value), V (fz s.heap mu) A v → s.TypeIs v T ∧ ∀ a, v = .ref a → ∃ o, s.heap.get? a = some o ∧ o.dict = none
theorem Pln.str {x : Str} : Pln "str" (.str x) := fun s mu v h => by
  obtain ⟨t, rfl⟩ := h.str_is
  exact ⟨typeIs_str _ _ _, fun _ e => nomatch e⟩
theorem Pln.list {xs : List AV} : Pln "list" (.list xs) := fun s mu v h => by
  obtain ⟨a, n, vs, rfl, e, k⟩ := h.list_is
  exact ⟨(isL (fz.get e)).typeIs, fun b q => by cases q; exact ⟨_, fz.get e, rfl⟩⟩
theorem Ev.meth {o e : Expr} {es : List Expr} {name : Str} {T id : String} {apos pos : Pos} {A : AV} {As : List AV} {R : AV} (pa : PlainAttrs T) (slot : Slot T name id)
    (ty : typeOf (.builtin id) = pure (.type "method_descriptor")) (hT : Pln T A) (ho : Ev W p C ρ o A) (hs : Evs W p C ρ (e :: es) As) (hb : Bui W.prog W.w id (A :: As) R) {pl : Sem Bool}
    (hE : eval (.Call (.Attribute o name apos) (e :: es) [] pos) C.env = (do
      let ov ← eval o C.env
      standAt apos.atName
      let (f, first) ← holding [ov] (getMethod ov name pl)
      callWith pos f first (backTo pos (starEach (e :: es) C.env)) []) := by rfl)
    (he : starEach (e :: es) C.env = (false, eval e C.env) :: starEach es C.env := by rfl) (hplain : (backTo pos (starEach es C.env)).any (·.1) = false := by rfl) : Ev W p C ρ (.Call (.Attribute o name apos) (e :: es) [] pos) R := by
  intro s Q E I k
  refine MethodCall_ (pl := pl) (ho s _ _ I fun ov s1 x1 v1 => ?_) hE
  refine getMethod_builtin (hT s1 _ _ v1).1 pa slot ty (hT s1 _ _ v1).2 ?_
  refine callWith_method1 (hs pos s1 _ _ (I.ext x1) fun vs s2 x2 v2 => ?_) he hplain
  exact hb C.A C.mu s2 _ (I.wf.rm.le (by omega)) ((I.ext x1).ext x2).mu (Vs.cons (V.mono (fz.kp x2.kp) _ _ v1) v2) _ _ fun v s3 x3 v3 => k v s3 ((x1.trans x2).trans x3.of_true) v3
end
end SC
namespace SC
open PySem PySem.Spec PySem.Calls PyProof.Rows PySem.W
def Fc.mo (C : Fc) (b : Addr) : Prop := b = C.env.locals ∨ (∃ x, C.oc x = true ∧ C.env.cells.lookup x = some b) ∨ ∃ y, C.own = some (y, b)
structure Stm (p : Bool) (C : Fc) (s s' : Shared) : Prop extends Glo p s s' where
  km : ∀ b o, ¬ C.mo b → s.heap.get? b = some o → s'.heap.get? b = some o
theorem Stm.refl (p : Bool) (C : Fc) (s : Shared) : Stm p C s s := ⟨Glo.refl p s, fun _ _ _ e => e⟩
theorem Stm.trans {p : Bool} {C : Fc} {a b c : Shared} (x : Stm p C a b) (y : Stm p C b c) : Stm p C a c := ⟨x.toGlo.trans y.toGlo, fun b o n e => y.km b o n (x.km b o n e)⟩
theorem Ext.stm {p : Bool} {C : Fc} {a b : Shared} (x : Ext p a b) : Stm p C a b := ⟨x.toGlo, fun b o _ e => x.kp b o e⟩
theorem WF.mo' {W : Wd} {C : Fc} (wf : WF W C) {b : Addr} (h : C.mo b) : b ∈ C.mu := by
  rcases h with rfl | ⟨x, q, hx⟩ | ⟨y, hy⟩
  · exact wf.Lmu
  · exact (wf.cmu x b q hx).1
  · exact (wf.omu y b hy).1
inductive Fl | next | cont | brk | ret (A : AV)
def FR (g : Addr → Option Obj) : Fl → Flow → Prop
  | .next, f => f = .next
  | .cont, f => f = .cont
  | .brk, f => f = .brk
  | .ret A, f => ∃ v, f = .ret v ∧ V g A v
section
variable (W : Wd) (p : Bool) (C : Fc) (ρ : Rho)
def Ex (st : Stmt) (fl : Fl) (ρ' : Rho) : Prop := ∀ (s : Shared) (Q : Flow → Shared → Prop) (E : Value → Shared → Prop), Inv W C ρ s → (∀ f s', Stm p C s s' → Inv W C ρ' s' → FR (fz s'.heap C.mu) fl f → Q f s') → wpAny W.M C.A (exec st C.env) Q E s
def Exs (st : List Stmt) (fl : Fl) (ρ' : Rho) : Prop := ∀ (s : Shared) (Q : Flow → Shared → Prop) (E : Value → Shared → Prop), Inv W C ρ s → (∀ f s', Stm p C s s' → Inv W C ρ' s' → FR (fz s'.heap C.mu) fl f → Q f s') → wpAny W.M C.A (execs st C.env) Q E s
def Sto (x : Str) (R : AV) : Prop := ∀ (s : Shared) (v : Value) (Q : Unit → Shared → Prop) (E : Value → Shared → Prop), Inv W C ρ s → V (fz s.heap C.mu) R v → (∀ s', Stm true C s s' → Inv W C (upd ρ x R) s' → Q () s') → wpAny W.M C.A (storeName C.env x v) Q E s
variable {W p C ρ}
theorem Stm.of_true {a b : Shared} (x : Stm true C a b) : Stm p C a b := ⟨⟨x.dr, x.os, x.ge.of_true⟩, x.km⟩
theorem Stm.local {s : Shared} {h' : Heap} {tk : Nat} (k : Heap.SameBut C.env.locals s.heap h') : Stm p C s { s with heap := h', toks := tk } :=
  ⟨⟨rfl, rfl, GM.refl p _⟩, fun b o n e => (k.2 b (fun q => n (.inl q))).trans e⟩
theorem Sto.loc {x : Str} {R : AV} (hk : C.env.kindOf x = some .local) : Sto W C ρ x R := by
  intro s v Q E I hv k
  obtain ⟨m, hn, _⟩ := I.ns
  refine wpAny_storeName_local hk hn (fun h' hn' hs' => ?_) (by rw [I.wf.kind]; rfl)
  refine k _ (Stm.local hs') (I.setL (VO.of_V hv) hs' (fun m' hm' => ?_) hk)
  rw [show m' = m from (Heap.Ns.eq_nsMap hm').trans (Heap.Ns.eq_nsMap hn).symm]; exact hn'
theorem Sto.cel {x : Str} {R : AV} (hk : C.env.kindOf x = some .cell) (oc : C.oc x = true) (hc : (C.env.cells.lookup x).isSome = true) : Sto W C ρ x R := by
  intro s v Q E I hv k
  obtain ⟨c, hc⟩ := Option.isSome_iff_exists.mp hc
  obtain ⟨v₀, h0⟩ := I.ce x c oc hc
  refine wpAny_storeName_cell I.wf.kind hk hc h0 fun h' hc' hs' => ?_
  exact k _ ⟨⟨rfl, rfl, GM.refl _ _⟩, fun b o n e => (hs'.2 b (fun q => n (.inr (.inl ⟨x, oc, q ▸ hc⟩)))).trans e⟩ (I.setC oc hv hc hs' hc' (by rw [hk]; simp))
theorem Exs.nil : Exs W p C ρ [] .next ρ := fun _ _ _ I k => wpAny_execs_nil (k _ _ (Stm.refl _ _ _) I rfl)
theorem Exs.cons {st : Stmt} {rest : List Stmt} {fl : Fl} {ρ1 ρ2 : Rho} (h : Ex W p C ρ st .next ρ1) (hr : Exs W p C ρ1 rest fl ρ2) : Exs W p C ρ (st :: rest) fl ρ2 := by
  intro s Q E I k
  refine wpAny_execs_cons (h s _ _ I fun f s1 x1 I1 e => ?_)
  obtain rfl : f = .next := e
  exact hr s1 _ _ I1 fun f s2 x2 I2 e2 => k f s2 (x1.trans x2) I2 e2
theorem Exs.stop {st : Stmt} {rest : List Stmt} {fl : Fl} {ρ1 : Rho} (h : Ex W p C ρ st fl ρ1) (hf : fl ≠ .next) : Exs W p C ρ (st :: rest) fl ρ1 := by
  intro s Q E I k
  refine wpAny_execs_cons (h s _ _ I fun f s1 x1 I1 e => ?_)
  cases fl with
  | next => exact absurd rfl hf
  | cont => obtain rfl : f = .cont := e; exact k _ _ x1 I1 rfl
  | brk => obtain rfl : f = .brk := e; exact k _ _ x1 I1 rfl
  | ret A => obtain ⟨v, rfl, hv⟩ := e; exact k _ _ x1 I1 ⟨v, rfl, hv⟩
theorem Exs.weak {st : List Stmt} {fl : Fl} {ρ1 ρ2 : Rho} (h : Exs W p C ρ st fl ρ1) (hw : ∀ x A, ρ2.lookup x = some A → ρ1.lookup x = some A) : Exs W p C ρ st fl ρ2 :=
  fun s Q E I k => h s Q E I fun f s' x I' e => k f s' x (I'.weak hw) e
theorem Exs.pre {st : List Stmt} {fl : Fl} {ρ1 ρ2 : Rho} (h : Exs W p C ρ1 st fl ρ2) (hw : ∀ x A, ρ1.lookup x = some A → ρ.lookup x = some A) : Exs W p C ρ st fl ρ2 :=
  fun s Q E I k => h s Q E (I.weak hw) k
theorem Ex.assign {x : Str} {e : Expr} {pos pos' : Pos} {R : AV} (h : Ev W p C ρ e R) (hst : Sto W C ρ x R) (hs : swapsWith e (some (.Name x pos')) pos.line C.env = pure false := by rfl) : Ex W p C ρ (.Assign [.Name x pos'] e pos) .next (upd ρ x R) := by
  intro s Q E I k
  refine wpAny_Assign_Name (h s _ _ I fun v s1 x1 v1 => ?_) hs
  exact hst s1 v _ _ (I.ext x1) v1 fun s2 x2 I2 => k _ _ (x1.stm.trans x2.of_true) I2 rfl
theorem Ex.ifs {t : Expr} {a b : List Stmt} {pos : Pos} {c : Bool} {fl : Fl} {ρ' : Rho} (ht : Tr W p C ρ t c) (h1 : c = true → Exs W p C ρ a fl ρ') (h2 : c = false → Exs W p C ρ b fl ρ') : Ex W p C ρ (.If t a b pos) fl ρ' := by
  intro s Q E I k
  refine wpAny_If (ht s _ _ I fun s1 x1 => ?_)
  cases c with
  | true => exact h1 rfl s1 _ _ (I.ext x1) fun f s2 x2 I2 e => k f s2 (x1.stm.trans x2) I2 e
  | false => exact h2 rfl s1 _ _ (I.ext x1) fun f s2 x2 I2 e => k f s2 (x1.stm.trans x2) I2 e
theorem Ex.ret {e : Expr} {pos : Pos} {R : AV} (h : Ev W p C ρ e R) : Ex W p C ρ (.Return (some e) pos) (.ret R) ρ := by
  intro s Q E I k
  exact wpAny_Return_some (h s _ _ I fun v s1 x1 v1 => k _ _ x1.stm (I.ext x1) ⟨v, rfl, v1⟩)
theorem Ex.brk {pos : Pos} : Ex W p C ρ (.Break pos) .brk ρ := by
  intro s Q E I k
  rw [arm_exec_Break]
  exact wpAny_bind (wpAny_standAt (wpAny_pure (k _ _ (Stm.refl _ _ _) I rfl)))
theorem ext_extBut {s : Shared} {h' : Heap} (he : Heap.ExtBut s.heap.objs.size s.heap h') : Kp s.heap h' := fun b o e => he b o (Nat.ne_of_lt (Heap.lt_size e)) e
theorem Ex.assign2 {x y : Str} {e : Expr} {pos tpos p1 p2 : Pos} {q : Nat} {A B : AV} (h : Ev W p C ρ e (.tup [A, B])) (hx : Sto W C ρ x A) (hy : Sto W C (upd ρ x A) y B)
    (hs : swapsWithSole [.Tuple [.Name x p1, .Name y p2] q tpos] e pos.line C.env = pure false := by rfl)
    (hw : swappedStores [.Tuple [.Name x p1, .Name y p2] q tpos] e C.env = pure none := by rfl)
    (ha : assignEach [.Name x p1, .Name y p2] C.env = [(false, PySem.assign (.Name x p1) C.env), (false, PySem.assign (.Name y p2) C.env)] := by rfl) :
    Ex W p C ρ (.Assign [.Tuple [.Name x p1, .Name y p2] q tpos] e pos) .next (upd (upd ρ x A) y B) := by
  intro s Q E I k
  refine Assign_Tuple (h s _ _ I fun v s1 x1 v1 => ?_) hs hw
  obtain ⟨t, n, vs, rfl, e1, k1⟩ := v1.tup_is
  obtain ⟨va, vb, rfl, ka, kb⟩ := two k1
  have ht : IsTup s1.heap t [va, vb].toArray := ⟨_, fz.get e1, rfl, _, rfl⟩
  refine assign_Tuple_tuple I.wf.rm.hd ht (by rw [ha]; rfl) (by rw [ha]; rfl) fun h' he => ?_
  have kp := ext_extBut he
  have x2 : Ext p s1 { s1 with heap := h' } := ⟨⟨rfl, rfl, GM.refl p _⟩, kp⟩
  rw [ha]
  show wpAny W.M C.A (do holding [vb] (PySem.assign (.Name x p1) C.env va); (do holding [] (PySem.assign (.Name y p2) C.env vb); pure ())) _ _ _
  refine wpAny_bind (wpAny_holding (PyProof.Rows.assign_Name (hx _ va _ _ ((I.ext x1).ext x2) (V.mono (fz.kp kp) _ _ ka) fun s3 x3 I3 => ?_)))
  refine wpAny_bind (wpAny_holding (PyProof.Rows.assign_Name (hy _ vb _ _ I3 ?_ fun s4 x4 I4 => ?_)))
  · have m3 : ∀ b o, b ∉ C.mu → h'.get? b = some o → s3.heap.get? b = some o := fun b o n e => x3.km b o (fun q => n (I.wf.mo' q)) e
    exact V.mono (fun b o e => fz.of (m3 b o (fz.notin e) (kp b o (fz.get e))) (fz.notin e)) _ _ kb
  · exact wpAny_pure (k _ _ ((x1.stm.trans x2.stm).trans (x3.of_true.trans x4.of_true)) I4 rfl)
theorem Ex.assign2s {x y : Str} {e : Expr} {pos tpos p1 p2 : Pos} {q : Nat} {A B : AV} (h : Ev W p C ρ e (.tup [A, B])) (hy : Sto W C ρ y B) (hx : Sto W C (upd ρ y B) x A)
    (hs : swapsWithSole [.Tuple [.Name x p1, .Name y p2] q tpos] e pos.line C.env = pure false := by rfl)
    (hw : swappedStores [.Tuple [.Name x p1, .Name y p2] q tpos] e C.env = pure (some [x, y]) := by rfl) :
    Ex W p C ρ (.Assign [.Tuple [.Name x p1, .Name y p2] q tpos] e pos) .next (upd (upd ρ y B) x A) := by
  intro s Q E I k
  refine Assign_Tuple_swapped (h s _ _ I fun v s1 x1 v1 => ?_) hs hw
  obtain ⟨t, n, vs, rfl, e1, k1⟩ := v1.tup_is
  obtain ⟨va, vb, rfl, ka, kb⟩ := two k1
  have ht : IsTup s1.heap t [va, vb].toArray := ⟨_, fz.get e1, rfl, _, rfl⟩
  refine unpackItems_tuple (items := [va, vb].toArray) I.wf.rm.hd ht fun h' he => ?_
  have kp := ext_extBut he
  have x2 : Ext p s1 { s1 with heap := h' } := ⟨⟨rfl, rfl, GM.refl p _⟩, kp⟩
  show wpAny W.M C.A (do holding [va] (bindName C.env y vb); (do holding [] (bindName C.env x va); pure ())) _ _ _
  refine wpAny_bind (wpAny_holding (wpAny_bindName (hy _ vb _ _ ((I.ext x1).ext x2) (V.mono (fz.kp kp) _ _ kb) fun s3 x3 I3 => ?_)))
  refine wpAny_bind (wpAny_holding (wpAny_bindName (hx _ va _ _ I3 ?_ fun s4 x4 I4 => ?_)))
  · have m3 : ∀ b o, b ∉ C.mu → h'.get? b = some o → s3.heap.get? b = some o := fun b o n e => x3.km b o (fun q => n (I.wf.mo' q)) e
    exact V.mono (fun b o e => fz.of (m3 b o (fz.notin e) (kp b o (fz.get e))) (fz.notin e)) _ _ ka
  · exact wpAny_pure (k _ _ ((x1.stm.trans x2.stm).trans (x3.of_true.trans x4.of_true)) I4 rfl)
def Inp (prog : Program) (w : World) (op : Operator) (A B R : AV) : Prop :=
  ∀ (Ar : Around) (mu : List Addr) (s : Shared) (a b : Value), Rm Ar 0 → MuOk mu s.heap → V (fz s.heap mu) A a → V (fz s.heap mu) B b → Op prog w (inplaceOp op a b) mu Ar s R
theorem Inp.add (a b : Int) : Inp W.prog W.w .Add (.int a) (.int b) (.int (a + b)) := by
  intro Ar mu s x y _ _ hx hy Q E h
  obtain ⟨t, rfl⟩ := hx.int_is; obtain ⟨u, rfl⟩ := hy.int_is
  exact PyProof.Rows.iadd_int (h _ _ Ext.tok V.int)
theorem Inp.sub (a b : Int) : Inp W.prog W.w .Sub (.int a) (.int b) (.int (a - b)) := by
  intro Ar mu s x y _ _ hx hy Q E h
  obtain ⟨t, rfl⟩ := hx.int_is; obtain ⟨u, rfl⟩ := hy.int_is
  exact P.isub_int (h _ _ Ext.tok V.int)
theorem Ex.aug {x : Str} {op : Operator} {e : Expr} {pos pos' : Pos} {A B R : AV} (hl : ρ.lookup x = some A) (hk : C.env.kindOf x = some .local) (hp : A.pl = true) (h : Ev W p C ρ e B) (ho : Inp W.prog W.w op A B R) :
    Ex W p C ρ (.AugAssign (.Name x pos') op e pos) .next (upd ρ x R) := by
  intro s Q E I k
  obtain ⟨m, hn, hm⟩ := I.ns
  obtain ⟨v, e1, e2⟩ := hm x A hl hk
  refine wpAny_AugAssign_Name (wpAny_loadName_local I.wf.kind hk hn e1 (h s _ _ I fun u s1 x1 v1 => ?_))
  refine ho C.A C.mu s1 v u (I.wf.rm.le (by omega)) (I.ext x1).mu (V.mono (fz.kp x1.kp) _ _ (e2.pl hp)) v1 _ _ fun r s2 x2 v2 => ?_
  exact (Sto.loc hk) s2 r _ _ ((I.ext x1).ext x2) v2 fun s3 x3 I3 => k _ _ ((x1.stm.trans x2.of_true.stm).trans x3.of_true) I3 rfl
end
end SC
namespace SC
open PySem PySem.Spec PySem.Calls PyProof.Rows PySem.W
def Fc.adm (C : Fc) (I : Addr) : Fc := { C with mu := I :: C.mu }
theorem WF.adm {W : Wd} {C : Fc} (wf : WF W C) (I : Addr) : WF W (C.adm I) where
  bs := wf.bs
  rm := wf.rm
  gl := wf.gl
  bi := wf.bi
  kind := wf.kind
  Lmu := .tail _ wf.Lmu
  Lent := wf.Lent
  cL := wf.cL
  cdis := wf.cdis
  cmu := fun x c o h => ⟨.tail _ (wf.cmu x c o h).1, (wf.cmu x c o h).2⟩
  omu := fun y a h => ⟨.tail _ (wf.omu y a h).1, (wf.omu y a h).2⟩
theorem VO.adm {C : Fc} {h : Heap} {I : Addr} (hI : h.get? I = none) {x : Str} {A : AV} {v : Value} (y : VO C h x A v) : VO (C.adm I) h x A v := by
  cases A with
  | own xs =>
    obtain ⟨a, n, vs, e1, e2, e3, e4⟩ := y
    exact ⟨a, n, vs, e1, e2, e3, Vs.mono (fz.fresh hI) _ _ e4⟩
  | _ => exact V.mono (fz.fresh hI) _ _ y
theorem VO.unadm {C : Fc} {h : Heap} {I : Addr} {x : Str} {A : AV} {v : Value} (y : VO (C.adm I) h x A v) : VO C h x A v := by
  have sub : ∀ a o, fz h (C.adm I).mu a = some o → fz h C.mu a = some o := fz.sub fun a ha => .tail _ ha
  cases A with
  | own xs =>
    obtain ⟨a, n, vs, e1, e2, e3, e4⟩ := y
    exact ⟨a, n, vs, e1, e2, e3, Vs.mono sub _ _ e4⟩
  | _ => exact V.mono sub _ _ y
theorem Inv.adm {W : Wd} {C : Fc} {ρ : Rho} {s s' : Shared} {I : Addr} (i : Inv W C ρ s) (hI : s.heap.get? I = none) (k : Kp s.heap s'.heap) (hs : (s'.heap.get? I).isSome = true) : Inv W (C.adm I) ρ s' where
  wf := i.wf.adm I
  ent := fun b o e => k b o (i.ent b o e)
  ns := by
    obtain ⟨m, hn, h⟩ := i.ns
    exact ⟨m, hn.keeps k, fun x A e q => by obtain ⟨v, e1, e2⟩ := h x A e q; exact ⟨v, e1, (e2.adm hI).kp k⟩⟩
  cl := fun x A e q => by
    obtain ⟨c, v, e1, e2, e3⟩ := i.cl x A e q
    exact ⟨c, v, e1, e2.keeps k, V.mono (fz.kp k) _ _ (V.mono (fz.fresh hI) _ _ e3)⟩
  ce := fun x c q e => by obtain ⟨v, h⟩ := i.ce x c q e; exact ⟨v, h.keeps k⟩
  mub := fun b hb => by
    rcases List.mem_cons.mp hb with rfl | hb
    · exact hs
    · exact MuOk.kp i.mub k b hb
  live := fun x c h => by
    obtain ⟨o, e⟩ := Option.isSome_iff_exists.mp (i.live x c h)
    rw [k c o e]; rfl
theorem Inv.unadm {W : Wd} {C : Fc} {ρ : Rho} {s : Shared} {I : Addr} (i : Inv W (C.adm I) ρ s) (wf : WF W C) : Inv W C ρ s where
  wf := wf
  ent := i.ent
  ns := by
    obtain ⟨m, hn, h⟩ := i.ns
    exact ⟨m, hn, fun x A e q => by obtain ⟨v, e1, e2⟩ := h x A e q; exact ⟨v, e1, e2.unadm⟩⟩
  cl := fun x A e q => by
    obtain ⟨c, v, e1, e2, e3⟩ := i.cl x A e q
    exact ⟨c, v, e1, e2, V.mono (fz.sub fun a ha => .tail _ ha) _ _ e3⟩
  ce := i.ce
  mub := fun b hb => i.mub b (.tail _ hb)
  live := i.live
theorem Inv.turn {W : Wd} {C : Fc} {ρ : Rho} {s s' : Shared} {I : Addr} (i : Inv W (C.adm I) ρ s) (k : ∀ b o, b ≠ I → s.heap.get? b = some o → s'.heap.get? b = some o) (hI : C.ent.get? I = none) (hL : ¬ C.mo I) (hc : ∀ x, C.env.cells.lookup x ≠ some I) (hs : (s'.heap.get? I).isSome = true) : Inv W (C.adm I) ρ s' := by
  have fzk : ∀ a o, fz s.heap (C.adm I).mu a = some o → fz s'.heap (C.adm I).mu a = some o := fun a o e =>
    fz.of (k a o (fun q => fz.notin e (q ▸ .head _)) (fz.get e)) (fz.notin e)
  have LI : C.env.locals ≠ I := fun q => hL (.inl q.symm)
  refine ⟨i.wf, fun b o e => k b o (fun q => by have e' : C.ent.get? b = some o := e; rw [q, hI] at e'; cases e') (i.ent b o e), ?_, fun x A e q => ?_, fun x c q e => ?_, fun b hb => ?_, fun x c h => ?_⟩
  · obtain ⟨m, hn, h⟩ := i.ns
    refine ⟨m, hn.at' fun o e => k _ o LI e, fun x A e q => ?_⟩
    obtain ⟨v, e1, e2⟩ := h x A e q
    refine ⟨v, e1, ?_⟩
    cases A with
    | own xs =>
      obtain ⟨a, n, vs, f1, f2, f3, f4⟩ := e2
      exact ⟨a, n, vs, f1, f2, k _ _ (fun z => hL (.inr (.inr ⟨x, z ▸ f1⟩))) f3, Vs.mono fzk _ _ f4⟩
    | _ => exact V.mono fzk _ _ e2
  · obtain ⟨c, v, e1, ⟨o, e2, e2'⟩, e3⟩ := i.cl x A e q
    exact ⟨c, v, e1, ⟨o, k _ _ (fun z => hc x (z ▸ e1)) e2, e2'⟩, V.mono fzk _ _ e3⟩
  · obtain ⟨v, o, e2, e2'⟩ := i.ce x c q e
    exact ⟨v, o, k _ _ (fun z => hc x (z ▸ e)) e2, e2'⟩
  · by_cases z : b = I
    · subst z; exact hs
    · obtain ⟨o, e⟩ := Option.isSome_iff_exists.mp (i.mub b hb)
      rw [k b o z e]; rfl
  · obtain ⟨o, e⟩ := Option.isSome_iff_exists.mp (i.live x c h)
    rw [k c o (fun z => hc x (z ▸ h)) e]; rfl
structure SrcAt (W : Wd) (C : Fc) (xs : List AV) (s s2 : Shared) (it : Value) : Prop where
  ex : ∃ (I : Addr) (fp : List Addr) (P : Nat → Value → Prop) (St : Nat → Heap → Prop), it = .ref I ∧ s.heap.get? I = none ∧ Walks W.prog W.w C.A I fp [I] xs.length P St ∧ St 0 s2.heap ∧
    (∀ i h, St i h → (h.get? I).isSome = true) ∧ (∀ b ∈ fp, b = I ∨ ¬ C.mo b) ∧ (∀ b ∈ fp, b < s2.heap.objs.size) ∧ (∀ i v, i < xs.length → P i v → ∃ x, xs[i]? = some x ∧ V (fz s2.heap (I :: C.mu)) x v)
section
variable (W : Wd) (p : Bool) (C : Fc) (ρ : Rho)
def Src (e : Expr) (xs : List AV) : Prop := ∀ (s : Shared) (Q E : Value → Shared → Prop), Inv W C ρ s → (∀ it s2, Ext p s s2 → SrcAt W C xs s s2 it → Q it s2) →
  wpAny W.M C.A (eval e C.env) (fun xv s1 => wpAny W.M C.A (pyIter xv) Q E s1) E s
inductive Lp (tgt : Str) (body : List Stmt) : List AV → Rho → Fl → Rho → Prop
  | done {ρ : Rho} : Lp tgt body [] ρ .next ρ
  | step {x : AV} {xs : List AV} {ρ ρ1 ρ2 ρ3 : Rho} {fl : Fl} : (∀ I, Sto W (C.adm I) ρ tgt x) → (∀ I, Exs W p (C.adm I) (upd ρ tgt x) body .next ρ1) → (∀ y A, ρ2.lookup y = some A → ρ1.lookup y = some A) →
      Lp tgt body xs ρ2 fl ρ3 → Lp tgt body (x :: xs) ρ fl ρ3
  | brk {x : AV} {xs : List AV} {ρ ρ1 : Rho} : (∀ I, Sto W (C.adm I) ρ tgt x) → (∀ I, Exs W p (C.adm I) (upd ρ tgt x) body .brk ρ1) → Lp tgt body (x :: xs) ρ .next ρ1
  | ret {x : AV} {xs : List AV} {ρ ρ1 : Rho} {A : AV} : (∀ I, Sto W (C.adm I) ρ tgt x) → (∀ I, Exs W p (C.adm I) (upd ρ tgt x) body (.ret A) ρ1) → Lp tgt body (x :: xs) ρ (.ret A) ρ1
variable {W p C ρ}
theorem Ext.fresh {s s' : Shared} (x : Ext p s s') {I : Addr} (h : s'.heap.get? I = none) : s.heap.get? I = none := by
  cases e : s.heap.get? I with
  | none => rfl
  | some o => rw [x.kp _ _ e] at h; cases h
theorem Inv.notmo {s : Shared} (i : Inv W C ρ s) {I : Addr} (h : s.heap.get? I = none) : ¬ C.mo I := fun q => i.new h (i.wf.mo' q)
theorem Src.list {e : Expr} {xs : List AV} (h : Ev W p C ρ e (.list xs)) : Src W p C ρ e xs := by
  intro s Q E I k
  refine h s _ _ I fun v s1 x1 v1 => ?_
  obtain ⟨a, n, vs, rfl, e1, k1⟩ := v1.list_is
  have hg := fz.get e1
  have hlt : a < s1.heap.objs.size := Heap.lt_size hg
  refine wpAny_pyIter_list (isL hg) ?_
  refine k _ _ (x1.trans Ext.push') ?_
  refine ⟨⟨s1.heap.objs.size, [s1.heap.objs.size, a], fun i v => vs.toArray[i]? = some v, fun i h => h.IsListIter s1.heap.objs.size a i ∧ h.IsList a vs.toArray, rfl, x1.fresh (get_size _), ?_, ⟨⟨_, Heap.get?_push_size _ rfl, rfl, rfl⟩, (isL hg).push _⟩, ?_, fun b hb => ?_, fun b hb => ?_, fun i v _ e => ?_⟩⟩
  · have := Walks.list (prog := W.prog) (w := W.w) I.wf.rm.hd s1.heap.objs.size a (Nat.ne_of_lt hlt) vs.toArray
    rw [show vs.toArray.size = xs.length by simp [k1.len]] at this
    exact this
  · rintro i h ⟨⟨o, e, _⟩, _⟩; rw [e]; rfl
  · simp at hb
    rcases hb with rfl | rfl
    · exact .inl rfl
    · exact .inr fun q => fz.notin e1 (I.wf.mo' q)
  · show b < (s1.heap.push _).objs.size
    rw [Heap.size_push]
    rcases List.mem_cons.mp hb with rfl | hb
    · exact Nat.lt_succ_self _
    · rcases List.mem_cons.mp hb with rfl | hb
      · exact Nat.lt_succ_of_lt hlt
      · cases hb
  · obtain ⟨x, ex, vx⟩ := k1.at' (by simpa using e)
    exact ⟨x, ex, V.mono (fz.kp (kpush _ _)) _ _ (V.mono (fz.fresh (get_size _)) _ _ vx)⟩
theorem Src.range {x : Str} {e : Expr} {pos pos' : Pos} {n : Nat} (hs : Ev W p C ρ e (.int n)) (hz : n < 2 ^ 60)
    (hv : bootBuiltins x = some (.type "range")) (hk : C.env.kindOf x = some .globalImplicit) (hfree : x ∉ W.names)
    (hboot : x ∉ bootMainNames := by decide) (hn : x ≠ "__name__" := by decide) (hd : (x == ("__debug__" : Str)) = false := by decide)
    (he : starEach [e] C.env = (false, eval e C.env) :: starEach [] C.env := by rfl) : Src W p C ρ (.Call (.Name x pos') [e] [] pos) ((List.range n).map fun i : Nat => AV.int (i : Int)) := by
  intro s Q E I k
  refine Call_ (Name_function_global I.wf.kind hk (loadGlobal_builtin (by rw [I.wf.gl]; exact I.G.g) (I.G.free x hfree hboot) (by rw [I.wf.bi]; exact I.G.b) ((I.G.builtins x hn).trans hv) ?_) hd)
  refine callWith_type1 ((Evs.cons hs Evs.nil he) pos s _ _ I fun vs s1 x1 v1 => ?_) he
  obtain ⟨v, rfl, q⟩ := one v1
  obtain ⟨t, rfl⟩ := q.int_is
  refine call_range_1 ?_
  have small : Builtin.Range.small 0 n 1 = true := small_one (by decide) (by decide) (by omega) (by omega)
  refine wpAny_pyIter_range (IsRange.new ..) small ?_
  have hsz : Builtin.Range.rangeSize 0 n 1 = (n : Int) := by rw [rangeSize_one]; split <;> omega
  rw [hsz]
  have x2 : Ext p s1 { s1 with heap := s1.heap.push { cls := .type "range", data := .fields #[.int 0 s1.toks, .int n t, .int 1 (s1.toks + 1)] }, toks := s1.toks + 1 + 1 } := Ext.push
  refine k _ _ ((x1.trans x2).trans Ext.push') ?_
  generalize hI : (s1.heap.push { cls := .type "range", data := .fields #[.int 0 s1.toks, .int n t, .int 1 (s1.toks + 1)] }).objs.size = I0
  refine ⟨⟨I0, [I0], fun i v => ∃ t, v = .int (0 + i * 1) t, fun i h => IsRangeIter h I0 (0 + (i : Nat) * 1) ((n : Int) - (i : Nat)) 1, by rw [← hI], by rw [← hI]; exact (x1.trans x2).fresh (get_size _), ?_, ?_, ?_, fun b hb => ?_, fun b hb => ?_, fun i v hi e => ?_⟩⟩
  · have := Walks.range (prog := W.prog) (w := W.w) I.wf.rm.hd I0 0 1 n
    have hn : ((List.range n).map fun i : Nat => AV.int (i : Int)).length = n := by simp
    rw [hn]
    exact this
  · show IsRangeIter _ _ _ _ _
    rw [← hI]
    have := Heap.get?_push_size (s1.heap.push { cls := .type "range", data := .fields #[.int 0 s1.toks, .int n t, .int 1 (s1.toks + 1)] }) (o := { cls := .type "range_iterator", data := .fields #[rawInt 0, rawInt n, rawInt 1] }) rfl
    simpa [IsRangeIter] using this
  · intro i h e; rw [show h.get? _ = some _ from e]; rfl
  · simp at hb; exact .inl hb
  · rcases List.mem_cons.mp hb with rfl | hb
    · show _ < (Heap.push _ _).objs.size
      rw [Heap.size_push, hI]; exact Nat.lt_succ_self _
    · cases hb
  · obtain ⟨t', rfl⟩ := e
    refine ⟨.int i, ?_, ?_⟩
    · have hi' : i < n := by simpa using hi
      simp [hi']
    · rw [show (0 + (i : Int) * 1) = (i : Int) by omega]; exact V.int
theorem Inv.leave {s s' : Shared} {I : Addr} (i : Inv W (C.adm I) ρ s) (wf : WF W C) (k : ∀ b o, b ≠ I → s.heap.get? b = some o → s'.heap.get? b = some o) (hI : C.ent.get? I = none) (hL : ¬ C.mo I) (hc : ∀ x, C.env.cells.lookup x ≠ some I) (hm : I ∉ C.mu) : Inv W C ρ s' := by
  have fzk : ∀ a o, fz s.heap (C.adm I).mu a = some o → fz s'.heap C.mu a = some o := fun a o e =>
    fz.of (k a o (fun q => fz.notin e (q ▸ .head _)) (fz.get e)) (fun q => fz.notin e (.tail _ q))
  have LI : C.env.locals ≠ I := fun q => hL (.inl q.symm)
  refine ⟨wf, fun b o e => k b o (fun q => by have e' : C.ent.get? b = some o := e; rw [q, hI] at e'; cases e') (i.ent b o e), ?_, fun x A e q => ?_, fun x c q e => ?_, fun b hb => ?_, fun x c h => ?_⟩
  · obtain ⟨m, hn, h⟩ := i.ns
    refine ⟨m, hn.at' fun o e => k _ o LI e, fun x A e q => ?_⟩
    obtain ⟨v, e1, e2⟩ := h x A e q
    refine ⟨v, e1, ?_⟩
    cases A with
    | own xs =>
      obtain ⟨a, n, vs, f1, f2, f3, f4⟩ := e2
      exact ⟨a, n, vs, f1, f2, k _ _ (fun z => hL (.inr (.inr ⟨x, z ▸ f1⟩))) f3, Vs.mono fzk _ _ f4⟩
    | _ => exact V.mono fzk _ _ e2
  · obtain ⟨c, v, e1, ⟨o, e2, e2'⟩, e3⟩ := i.cl x A e q
    exact ⟨c, v, e1, ⟨o, k _ _ (fun z => hc x (z ▸ e1)) e2, e2'⟩, V.mono fzk _ _ e3⟩
  · obtain ⟨v, o, e2, e2'⟩ := i.ce x c q e
    exact ⟨v, o, k _ _ (fun z => hc x (z ▸ e)) e2, e2'⟩
  · obtain ⟨o, e⟩ := Option.isSome_iff_exists.mp (i.mub b (.tail _ hb))
    rw [k b o (fun z => hm (z ▸ hb)) e]; rfl
  · obtain ⟨o, e⟩ := Option.isSome_iff_exists.mp (i.live x c h)
    rw [k c o (fun z => hc x (z ▸ h)) e]; rfl
theorem Inv.notcell {s : Shared} (i : Inv W C ρ s) {I : Addr} (h : s.heap.get? I = none) (hk : ∀ x c, C.env.cells.lookup x = some c → (s.heap.get? c).isSome = true) : ∀ x, C.env.cells.lookup x ≠ some I := fun x q => by
  have := hk x I q; rw [h] at this; cases this
set_option maxHeartbeats 1000000 in
theorem Ex.for {tgt : Str} {px pos : Pos} {iter : Expr} {body : List Stmt} {xs : List AV} {fl : Fl} {ρ0 ρ' : Rho} (hs : Src W p C ρ iter xs) (hL : Lp W p C tgt body xs ρ0 fl ρ') (hsub : ∀ y A, ρ0.lookup y = some A → ρ.lookup y = some A)
    (hf : ∀ x, foldedSetIterable iter C.env x = pure x := by intro _; rfl) : Ex W p C ρ (.For (.Name tgt px) iter body [] pos) fl ρ' := by
  intro s Q E I k
  refine wpAny_For (hs s _ _ I fun it s2 x2 sa => ?_) hf
  obtain ⟨i0, fp, P, St, rfl, hfr, Wk, st0, stI, hfp, hfl, hP⟩ := sa.ex
  have hmoI : ¬ C.mo i0 := I.notmo hfr
  have hmuI : i0 ∉ C.mu := I.new hfr
  have hcI : ∀ x, C.env.cells.lookup x ≠ some i0 := I.notcell hfr I.live
  have hentI : C.ent.get? i0 = none := by
    cases e : C.ent.get? i0 with
    | none => rfl
    | some o => rw [I.ent _ _ e] at hfr; cases hfr
  have Ia := I.adm hfr x2.kp (stI 0 _ st0)
  refine codeAny_forLoop (prog := W.prog) (w := W.w) (fun n s' => ∃ i ρi, n = xs.length - i ∧ i ≤ xs.length ∧ Lp W p C tgt body (xs.drop i) ρi fl ρ' ∧ Inv W (C.adm i0) ρi s' ∧ St i s'.heap ∧ Glo p s2 s' ∧
    (∀ b o, ¬ C.mo b → b ≠ i0 → s2.heap.get? b = some o → s'.heap.get? b = some o)) ?_ xs.length ⟨0, ρ0, rfl, Nat.zero_le _, by simpa using hL, Ia.weak hsub, st0, Glo.refl _ _, fun _ _ _ _ e => e⟩
  rintro n s' ⟨i, ρi, rfl, hi, hl, Ii, st, gl, kk⟩
  have out : ∀ (f : Flow) (s3 : Shared) (ρ3 : Rho) (h3 : Heap), Inv W C ρ3 s3 → Glo p s2 s3 → (∀ b o, ¬ C.mo b → b ≠ i0 → s2.heap.get? b = some o → s3.heap.get? b = some o) → Stm p C s s3 := fun f s3 ρ3 h3 I3 g3 k3 =>
    ⟨x2.toGlo.trans g3, fun b o nb e => k3 b o nb (fun q => by rw [q, hfr] at e; cases e) (x2.kp b o e)⟩
  by_cases hlt : i < xs.length
  · obtain ⟨x, rest, hd⟩ : ∃ x rest, xs.drop i = x :: rest := ⟨xs[i], xs.drop (i + 1), by rw [List.drop_eq_getElem_cons hlt]⟩
    have hx : xs[i]? = some x := by
      have := congrArg (·[0]?) hd
      simpa using this
    have hrest : xs.drop (i + 1) = rest := by
      have := congrArg List.tail hd
      simpa using this
    refine Wk.item i s' _ _ hlt st fun v h1 tk1 hPv st1 k1 => ?_
    obtain ⟨x', ex', vx⟩ := hP i v hlt hPv
    obtain rfl : x' = x := by rw [hx] at ex'; exact (Option.some.inj ex').symm
    have k1' : ∀ b o, b ≠ i0 → s'.heap.get? b = some o → h1.get? b = some o := fun b o nb e => k1 b o (by simpa using nb) e
    have I1 : Inv W (C.adm i0) ρi { s' with heap := h1, toks := tk1 } := Ii.turn k1' hentI hmoI hcI (stI _ _ st1)
    have vx1 : V (fz h1 (C.adm i0).mu) x' v := V.mono (fun a o e => fz.of (k1' a o (fun q => fz.notin e (q ▸ .head _)) (kk a o (fun q => fz.notin e (.tail _ (I.wf.mo' q))) (fun q => fz.notin e (q ▸ .head _)) (fz.get e))) (fz.notin e)) _ _ vx
    rw [hd] at hl
    have body_out : ∀ (s3 : Shared), Stm p (C.adm i0) { s' with heap := h1, toks := tk1 } s3 → Glo p s2 s3 ∧ (∀ b o, ¬ C.mo b → b ≠ i0 → s2.heap.get? b = some o → s3.heap.get? b = some o) ∧ St (i + 1) s3.heap := fun s3 x3 => by
      have g1 : Glo p s' { s' with heap := h1, toks := tk1 } := ⟨rfl, rfl, GM.refl p _⟩
      refine ⟨(gl.trans g1).trans x3.toGlo, fun b o nb ni e => x3.km b o nb (k1' b o ni (kk b o nb ni e)), ?_⟩
      refine Wk.frame _ _ _ st1 fun b hb o e => x3.km b o ?_ e
      rcases hfp b hb with rfl | nb
      · exact hmoI
      · exact nb
    cases hl with
    | step h1 h2 h3 h4 =>
      refine PyProof.Rows.assign_Name (h1 i0 _ v _ _ I1 vx1 fun s3 x3 I3 => ?_)
      refine h2 i0 s3 _ _ I3 fun f s4 x4 I4 e4 => ?_
      obtain rfl : f = .next := e4
      obtain ⟨a1, a2, a3⟩ := body_out s4 (x3.of_true.trans x4)
      exact ⟨_, by omega, i + 1, _, rfl, hlt, by rw [hrest]; exact h4, I4.weak h3, a3, a1, a2⟩
    | brk h1 h2 =>
      refine PyProof.Rows.assign_Name (h1 i0 _ v _ _ I1 vx1 fun s3 x3 I3 => ?_)
      refine h2 i0 s3 _ _ I3 fun f s4 x4 I4 e4 => ?_
      obtain rfl : f = .brk := e4
      obtain ⟨a1, a2, a3⟩ := body_out s4 (x3.of_true.trans x4)
      have I5 := I4.unadm I.wf
      exact k _ _ (out .next s4 _ s4.heap I5 a1 a2) I5 rfl
    | ret h1 h2 =>
      refine PyProof.Rows.assign_Name (h1 i0 _ v _ _ I1 vx1 fun s3 x3 I3 => ?_)
      refine h2 i0 s3 _ _ I3 fun f s4 x4 I4 e4 => ?_
      obtain ⟨u, rfl, hu⟩ := e4
      obtain ⟨a1, a2, a3⟩ := body_out s4 (x3.of_true.trans x4)
      have I5 := I4.unadm I.wf
      exact k _ _ (out .next s4 _ s4.heap I5 a1 a2) I5 ⟨u, rfl, V.mono (fz.sub fun a ha => .tail _ ha) _ _ hu⟩
  · have hin : i = xs.length := by omega
    subst hin
    rw [List.drop_length] at hl
    cases hl
    refine Wk.done s' _ _ st fun h1 tk1 k1 => ?_
    have k1' : ∀ b o, b ≠ i0 → s'.heap.get? b = some o → h1.get? b = some o := fun b o nb e => k1 b o (by simpa using nb) e
    have I5 : Inv W C _ { s' with heap := h1, toks := tk1 } := Ii.leave I.wf k1' hentI hmoI hcI hmuI
    refine wpAny_execs_nil (k _ _ (out .next _ _ h1 I5 (gl.trans ⟨rfl, rfl, GM.refl p _⟩) fun b o nb ni e => k1' b o ni (kk b o nb ni e)) I5 rfl)
end
end SC
namespace SC
open PySem PySem.Spec PySem.Calls PyProof.Rows PySem.W
def frC (d : DefItem) (Ar : Around) (L f : Addr) (cd pm doc : Value) (ent : Heap) (mu : List Addr) : Fc :=
  { A := Ar.deeper (callEnvC (docDef d.name d.params d.body d.scope pm cd doc) L f), env := callEnvC (docDef d.name d.params d.body d.scope pm cd doc) L f, ent := ent,
    mu := L :: ((cellsFrom (L + 1) d.scope.names []).map (·.2) ++ mu), own := none, oc := fun _ => true }
section
variable (W : Wd) (p : Bool)
def Run (C : Fc) (mu : List Addr) (ρ : Rho) (st : List Stmt) (R : AV) : Prop := ∀ (s : Shared) (Q : Flow → Shared → Prop) (E : Value → Shared → Prop), Inv W C ρ s →
  (∀ v s', Glo p s s' → Kp C.ent s'.heap → V (fz s'.heap mu) R v → Q (.ret v) s') → wpAny W.M C.A (execs st C.env) Q E s
def Con (d : DefItem) (As : List AV) (R : AV) (n : Nat) : Prop := ∀ (Ar : Around) (s : Shared) (mu : List Addr) (f : Addr) (vs : List Value), Rm Ar n → W.B s.heap → MuOk mu s.heap →
  W.mg d.name = some (.ref f) → Vs (fz s.heap mu) As vs → ∀ (Q E : Value → Shared → Prop), (∀ v s', Ext p s s' → V (fz s'.heap mu) R v → Q v s') → wpAny W.M Ar (call (.ref f) vs) Q E s
variable {W p}
theorem Run.of {C : Fc} {mu : List Addr} {ρ ρ' : Rho} {st : List Stmt} {R : AV} (h : Exs W p C ρ st (.ret R) ρ') (hm : ∀ a ∈ mu, a ∈ C.mu) : Run W p C mu ρ st R := by
  intro s Q E I k
  refine h s Q E I fun f s1 x1 I1 e => ?_
  obtain ⟨v, rfl, hv⟩ := e
  exact k v s1 x1.toGlo I1.ent (V.mono (fz.sub hm) _ _ hv)
theorem Run.cons {C : Fc} {mu : List Addr} {ρ ρ1 : Rho} {st : Stmt} {rest : List Stmt} {R : AV} (h : Ex W p C ρ st .next ρ1) (hr : Run W p C mu ρ1 rest R) : Run W p C mu ρ (st :: rest) R := by
  intro s Q E I k
  refine wpAny_execs_cons (h s _ _ I fun f s1 x1 I1 e => ?_)
  obtain rfl : f = .next := e
  exact hr s1 _ _ I1 fun v s2 x2 kp hv => k v s2 (x1.toGlo.trans x2) kp hv
theorem Run.stop {C : Fc} {mu : List Addr} {ρ ρ1 : Rho} {st : Stmt} {rest : List Stmt} {R : AV} (h : Ex W p C ρ st (.ret R) ρ1) (hm : ∀ a ∈ mu, a ∈ C.mu) : Run W p C mu ρ (st :: rest) R :=
  Run.of (Exs.stop h (by simp)) hm
theorem Run.pre {C : Fc} {mu : List Addr} {ρ ρ1 : Rho} {st : List Stmt} {R : AV} (h : Run W p C mu ρ1 st R) (hw : ∀ x A, ρ1.lookup x = some A → ρ.lookup x = some A) : Run W p C mu ρ st R :=
  fun s Q E I k => h s Q E (I.weak hw) k
theorem bindL_not {k : Str → Option NameKind} : ∀ {b : List (Str × Value)} {m : Str → Option Value} {x : Str}, x ∉ b.map (·.1) → bindL k b m x = m x
  | [], _, _, _ => rfl
  | (n, v) :: r, m, x, h => by
    rw [bindL, bindL_not (by simp at h ⊢; exact h.2)]
    have hx : x ≠ n := by simp at h; exact h.1
    by_cases q : k n = some .local
    · rw [if_pos q]; simp [hx]
    · rw [if_neg q]
theorem bindC_not {k : Str → Option NameKind} : ∀ {b : List (Str × Value)} {m : Str → Option Value} {x : Str}, x ∉ b.map (·.1) → bindC k b m x = m x
  | [], _, _, _ => rfl
  | (n, v) :: r, m, x, h => by
    rw [bindC, bindC_not (by simp at h ⊢; exact h.2)]
    have hx : x ≠ n := by simp at h; exact h.1
    by_cases q : k n = some .local
    · rw [if_pos q]
    · rw [if_neg q]; simp [hx]
theorem zip_names : ∀ {ns : List Str} {vs : List Value}, ns.length = vs.length → (ns.zip vs).map (·.1) = ns
  | [], [], _ => rfl
  | n :: ns, v :: vs, h => by simp at h; simp [zip_names h]
  | [], _ :: _, h => by simp at h
  | _ :: _, [], h => by simp at h
theorem bind_at {k : Str → Option NameKind} {g : Addr → Option Obj} : ∀ {ns : List Str} {vs : List Value} {As : List AV} {m cm : Str → Option Value}, ns.Nodup → ns.length = As.length → Vs g As vs → ∀ {x : Str} {A : AV}, (ns.zip As).lookup x = some A →
    ∃ v, (k x = some .local → bindL k (ns.zip vs) m x = some v) ∧ (k x ≠ some .local → bindC k (ns.zip vs) cm x = some v) ∧ V g A v
  | [], _, _, _, _, _, _, _, x, A, e => by simp at e
  | n :: ns, vs, [], _, _, _, h, _, x, A, e => by simp at h
  | n :: ns, vs, B :: As, m, cm, hn, hl, hv, x, A, e => by
    obtain ⟨v, r, rfl, k1, k2⟩ := hv.cons_is
    simp only [List.zip_cons_cons, List.lookup_cons] at e
    rw [List.nodup_cons] at hn
    have hlen : ns.length = r.length := by rw [k2.len]; simpa using hl
    by_cases q : x = n
    · subst q
      simp at e; subst e
      have hnot : x ∉ (ns.zip r).map (·.1) := by rw [zip_names hlen]; exact hn.1
      refine ⟨v, fun z => ?_, fun z => ?_, k1⟩
      · simp only [List.zip_cons_cons, bindL]; rw [bindL_not hnot]; simp [z]
      · simp only [List.zip_cons_cons, bindC]; rw [bindC_not hnot]; simp [z]
    · rw [beq_eq_false_iff_ne.mpr q] at e
      simp only [List.zip_cons_cons, bindL, bindC]
      exact bind_at hn.2 (by simpa using hl) k2 e
theorem cells_mem {L : Nat} {ns : List (Str × NameKind)} {x : Str} {c : Addr} (h : (cellsFrom L ns []).lookup x = some c) : c ∈ (cellsFrom L ns []).map (·.2) := List.mem_map.mpr ⟨(x, c), lookup_mem h, rfl⟩
theorem lookup_of_mem {α : Type} : ∀ {l : List (Str × α)} {n : Str} {c : α}, (l.map (·.1)).Nodup → (n, c) ∈ l → l.lookup n = some c
  | [], _, _, _, h => by cases h
  | (k, v) :: r, n, c, hn, h => by
    rw [List.lookup_cons]
    simp only [List.map_cons, List.nodup_cons] at hn
    rcases List.mem_cons.mp h with e | h
    · cases e; simp
    · have : n ≠ k := fun q => hn.1 (q ▸ List.mem_map.mpr ⟨_, h, rfl⟩)
      rw [beq_eq_false_iff_ne.mpr this]
      exact lookup_of_mem hn.2 h
theorem Con.intro {d : DefItem} {As : List AV} {R : AV} {n : Nat} {names : List Str} (hd : d ∈ W.defs) (hdef : d.params.defaults = []) (hk : d.scope.kind = .function) (hco : d.scope.isCoroutine = false) (hgen : d.scope.isGenerator = false)
    (hlen : names.length = As.length) (hnd : names.Nodup)
    (hb : ∀ pm c doc (vs : List Value), vs.length = names.length → bindArgs (docDef d.name d.params d.body d.scope pm c doc) ⟨vs, []⟩ = pure (names.zip vs))
    (hcd : ∀ L, ((cellsFrom L d.scope.names []).map (·.1)).Nodup)
    (hloc : ∀ x ∈ names, d.scope.names.lookup x = some .local ∨ (d.scope.names.lookup x = some .cell ∧ ∀ L, ((cellsFrom L d.scope.names []).lookup x).isSome = true))
    (body : ∀ (Ar : Around) (L f : Addr) (cd pm doc : Value) (ent : Heap) (mu : List Addr), Rm Ar (n + 4) → W.B ent → MuOk mu ent → Run W p (frC d Ar L f cd pm doc ent mu) mu (names.zip As) d.body R) : Con W p d As R (n + 4) := by
  intro Ar s mu f vs rm hB hmu hf hv Q E k
  obtain ⟨a, c', o, pm, doc, _, _, h3, h4, h5, h6⟩ := ((W.BG _ hB).made d hd).plain hdef
  obtain rfl : a = f := by rw [h3] at hf; cases hf; rfl
  have hvl : vs.length = names.length := by rw [hv.len, hlen]
  refine wpAny_call (codeAny_call_cells (binds := names.zip vs) (by have := rm.dp; omega) h4 h5 (W.BG _ hB).nolimit h6 rfl (hb _ _ _ _ hvl) rfl (fun x hx => ?_) (fun s1 ic => ?_) hco hgen hk)
  · rcases hloc x.1 (List.of_mem_zip hx).1 with q | q
    · exact .inl q
    · exact .inr ⟨q.1, q.2 _⟩
  · have fresh : ∀ b, s.heap.objs.size ≤ b → s.heap.get? b = none := fun b hb => by
      cases e : s.heap.get? b with
      | none => rfl
      | some o => exact absurd (Heap.lt_size e) (Nat.not_lt.mpr hb)
    have hmn : ∀ b, s.heap.get? b = none → b ∉ mu := fun b e => hmu.new e
    have kp : Kp s.heap s1.heap := ic.toInCall.keep
    have fzk : ∀ a o, fz s.heap mu a = some o → fz s1.heap (frC d Ar s.heap.objs.size a (.ref c') pm doc s.heap mu).mu a = some o := fun b o e => by
      refine fz.of (kp b o (fz.get e)) fun q => ?_
      have hlt := Heap.lt_size (fz.get e)
      rcases List.mem_cons.mp q with rfl | q
      · exact Nat.lt_irrefl _ hlt
      · rcases List.mem_append.mp q with q | q
        · obtain ⟨⟨n, c⟩, hc, rfl⟩ := List.mem_map.mp q
          have := ic.above n c hc
          exact Nat.lt_asymm hlt this
        · exact fz.notin e q
    have hcl : ∀ n c, (n, c) ∈ cellsFrom (s.heap.objs.size + 1) d.scope.names [] → (s1.heap.get? c).isSome = true := fun n c h => by
      obtain ⟨o, e, _⟩ := ic.cell n c (lookup_of_mem (hcd _) h)
      rw [e]; rfl
    have wfC : WF W (frC d Ar s.heap.objs.size a (.ref c') pm doc s.heap mu) :=
      { bs := hB
        rm := (rm.deeper _).le (by omega)
        gl := rfl
        bi := rfl
        kind := hk
        Lmu := .head _
        Lent := fresh _ (Nat.le_refl _)
        cL := fun x c h => Nat.ne_of_gt (ic.above x c (lookup_mem h))
        cdis := fun x y c _ h1 h2 => cell_name ic.apart (lookup_mem h2) (lookup_mem h1)
        cmu := fun x c _ h => ⟨.tail _ (List.mem_append_left _ (cells_mem h)), fresh _ (Nat.le_of_lt (ic.above x c (lookup_mem h)))⟩
        omu := fun y b h => by cases h }
    have inv : Inv W (frC d Ar s.heap.objs.size a (.ref c') pm doc s.heap mu) (names.zip As) s1 :=
      { wf := wfC
        ent := kp
        ns := ⟨_, ic.toInCall.ns, fun x A e q => by
          obtain ⟨v, e1, e1', e2⟩ := bind_at (k := (callEnvC (docDef d.name d.params d.body d.scope pm (.ref c') doc) s.heap.objs.size a).kindOf) (m := fun _ => none) (cm := fun _ => none) hnd hlen hv e
          exact ⟨v, e1 q, VO.of_V (V.mono fzk _ _ e2)⟩⟩
        cl := fun x A e q => by
          obtain ⟨v, e1, e1', e2⟩ := bind_at (k := (callEnvC (docDef d.name d.params d.body d.scope pm (.ref c') doc) s.heap.objs.size a).kindOf) (m := fun _ => none) (cm := fun _ => none) hnd hlen hv e
          have hx : x ∈ names := (List.of_mem_zip (lookup_mem e)).1
          rcases hloc x hx with z | z
          · exact absurd z q
          · obtain ⟨c, hc⟩ := Option.isSome_iff_exists.mp (z.2 (s.heap.objs.size + 1))
            have := ic.cell x c hc
            rw [e1' q] at this
            exact ⟨c, v, hc, this, V.mono fzk _ _ e2⟩
        ce := fun x c _ h => ⟨_, ic.cell x c h⟩
        mub := fun b hb => by
          rcases List.mem_cons.mp hb with rfl | hb
          · obtain ⟨o, es, ep, e, _⟩ := ic.toInCall.ns
            exact Option.isSome_iff_exists.mpr ⟨o, e⟩
          · rcases List.mem_append.mp hb with hb | hb
            · obtain ⟨⟨n, c⟩, hc, rfl⟩ := List.mem_map.mp hb
              exact hcl n c hc
            · exact hmu.kp kp b hb
        live := fun x c h => by
          obtain ⟨o, e, _⟩ := ic.cell x c h
          rw [e]; rfl }
    have s1e : Glo p s s1 := by
      obtain ⟨h', tk, rfl⟩ := ic.toInCall.same
      exact ⟨rfl, rfl, GM.refl p _⟩
    exact body Ar s.heap.objs.size a (.ref c') pm doc s.heap mu rm hB hmu s1 _ _ inv fun v s2 x2 k2 hv2 => k v s2 ⟨s1e.trans x2, k2⟩ hv2
theorem cells_names (L L' : Nat) : ∀ (ns : List (Str × NameKind)) (acc acc' : List (Str × Addr)), acc.map (·.1) = acc'.map (·.1) → (cellsFrom L ns acc).map (·.1) = (cellsFrom L' ns acc').map (·.1)
  | [], _, _, h => h
  | (n, k) :: r, acc, acc', h => by
    unfold cellsFrom
    split
    · exact cells_names (L + 1) (L' + 1) r _ _ (by simp [h])
    · exact cells_names L L' r _ _ h
theorem Con.intro1 {d : DefItem} {A : AV} {R : AV} {n : Nat} {x : Str} (hd : d ∈ W.defs)
    (body : ∀ (Ar : Around) (L f : Addr) (cd pm doc : Value) (ent : Heap) (mu : List Addr), Rm Ar (n + 4) → W.B ent → MuOk mu ent → Run W p (frC d Ar L f cd pm doc ent mu) mu [(x, A)] d.body R)
    (hdef : d.params.defaults = [] := by rfl) (hk : d.scope.kind = .function := by rfl) (hco : d.scope.isCoroutine = false := by rfl) (hgen : d.scope.isGenerator = false := by rfl)
    (hb : ∀ pm c doc v, bindArgs (docDef d.name d.params d.body d.scope pm c doc) ⟨[v], []⟩ = pure [(x, v)] := by intros; rfl)
    (hcd : ((cellsFrom 0 d.scope.names []).map (·.1)).Nodup := by decide +kernel)
    (hloc : (d.scope.names.lookup x == some .local || (d.scope.names.lookup x == some .cell && ((cellsFrom 0 d.scope.names []).map (·.1)).contains x)) = true := by decide +kernel) : Con W p d [A] R (n + 4) := by
  refine Con.intro (names := [x]) hd hdef hk hco hgen rfl (by simp) (fun pm c doc vs hv => ?_) (fun L => ?_) (fun y hy => ?_) body
  · obtain ⟨v, rfl⟩ : ∃ v, vs = [v] := by cases vs with | nil => simp at hv | cons v r => cases r with | nil => exact ⟨v, rfl⟩ | cons => simp at hv
    exact hb pm c doc v
  · rw [cells_names L 0 _ [] [] rfl]; exact hcd
  · obtain rfl : y = x := by simpa using hy
    rcases Bool.or_eq_true _ _ ▸ hloc with h | h
    · exact .inl (by simpa using h)
    · rw [Bool.and_eq_true] at h
      refine .inr ⟨by simpa using h.1, fun L => ?_⟩
      have hm : y ∈ (cellsFrom L d.scope.names []).map (·.1) := by rw [cells_names L 0 _ [] [] rfl]; simpa using h.2
      obtain ⟨⟨z, c⟩, hz, rfl⟩ := List.mem_map.mp hm
      rw [lookup_of_mem (by rw [cells_names L 0 _ [] [] rfl]; exact hcd) hz]; rfl
theorem Ev.ucall {C : Fc} {ρ : Rho} {d : DefItem} {x : Str} {e : Expr} {es : List Expr} {pos pos' : Pos} {As : List AV} {R : AV} {n : Nat} (hd : d ∈ W.defs) (hdef : d.params.defaults = []) (hx : d.name = x) (hs : Evs W p C ρ (e :: es) As) (hc : Con W p d As R n) (hr : Rm C.A n)
    (hk : C.env.kindOf x = some .globalImplicit) (hdb : (x == ("__debug__" : Str)) = false := by decide)
    (he : starEach (e :: es) C.env = (false, eval e C.env) :: starEach es C.env := by rfl) : Ev W p C ρ (.Call (.Name x pos') (e :: es) [] pos) R := by
  intro s Q E I k
  obtain ⟨f, c', o, pm, doc, _, _, h3, h4, h5, h6⟩ := (I.G.made d hd).plain hdef
  refine Call_ (Name_function_global I.wf.kind hk (loadGlobal_global (by rw [I.wf.gl]; exact I.G.g) (hx ▸ h3) ?_) hdb)
  refine callWith_def h5 (hs pos s _ _ I fun vs s1 x1 v1 => ⟨x1.kp _ _ h4, ?_⟩) he
  exact hc C.A s1 C.mu f vs hr (I.ext x1).B (I.ext x1).mu h3 v1 _ _ fun v s2 x2 v2 => k v s2 (x1.trans x2) v2
end
end SC
namespace SC
open PySem PySem.Spec PySem.Calls PyProof.Rows PySem.W
def clos : List (Str × NameKind) → List (Str × Addr) → List (Str × Addr) → List (Str × Addr)
  | [], _, acc => acc
  | (n, k) :: r, cs, acc => if k == .free then (match cs.lookup n with | some c => clos r cs ((n, c) :: acc) | none => clos r cs acc) else clos r cs acc
theorem forIn_clos (env : Env) : ∀ (names : List (Str × NameKind)) (acc : List (Str × Addr)), (∀ x ∈ names, x.2 = .free → (env.cells.lookup x.1).isSome = true) →
    (forIn names acc fun x cs => if x.2 == .free then (do let c ← cellOf env x.1; pure (.yield ((x.1, c) :: cs))) else pure (.yield cs) : Sem (List (Str × Addr))) = pure (clos names env.cells acc)
  | [], acc, _ => by rw [List.forIn_nil]; rfl
  | (n, k) :: r, acc, h => by
    rw [List.forIn_cons]
    unfold clos
    by_cases hk : k = .free
    · subst hk
      obtain ⟨c, hc⟩ := Option.isSome_iff_exists.mp (h _ (.head _) rfl)
      have e : cellOf env n = pure c := by unfold cellOf; rw [hc]
      simp only [beq_self_eq_true, if_true, e, hc, pure_bind]
      exact forIn_clos env r _ fun x hx => h x (.tail _ hx)
    · have : (k == NameKind.free) = false := beq_eq_false_iff_ne.mpr hk
      simp only [this, Bool.false_eq_true, if_false, pure_bind]
      exact forIn_clos env r _ fun x hx => h x (.tail _ hx)
theorem closureFor_eq {scope : Scope} {env : Env} (h : ∀ x ∈ scope.names, x.2 = .free → (env.cells.lookup x.1).isSome = true) : closureFor scope env = pure (clos scope.names env.cells []) := by
  have := forIn_clos env scope.names [] h
  unfold closureFor
  rw [← this]
  exact bind_pure _
theorem clos_mem : ∀ {names : List (Str × NameKind)} {cs acc : List (Str × Addr)} {n : Str} {c : Addr}, (n, c) ∈ clos names cs acc → (n, c) ∈ acc ∨ ((n, NameKind.free) ∈ names ∧ cs.lookup n = some c)
  | [], _, _, _, _, h => .inl h
  | (m, k) :: r, cs, acc, n, c, h => by
    unfold clos at h
    by_cases hk : k = .free
    · subst hk
      simp only [beq_self_eq_true, if_true] at h
      cases hm : cs.lookup m with
      | none =>
        rw [hm] at h
        rcases clos_mem h with q | ⟨q, e⟩
        · exact .inl q
        · exact .inr ⟨.tail _ q, e⟩
      | some d =>
        rw [hm] at h
        rcases clos_mem h with q | ⟨q, e⟩
        · rcases List.mem_cons.mp q with q | q
          · cases q; exact .inr ⟨.head _, hm⟩
          · exact .inl q
        · exact .inr ⟨.tail _ q, e⟩
    · have : (k == NameKind.free) = false := beq_eq_false_iff_ne.mpr hk
      rw [this, if_neg (by decide)] at h
      rcases clos_mem h with q | ⟨q, e⟩
      · exact .inl q
      · exact .inr ⟨.tail _ q, e⟩
theorem cellsFrom_append : ∀ (names : List (Str × NameKind)) (m : Nat) (acc : List (Str × Addr)), cellsFrom m names acc = cellsFrom m names [] ++ acc
  | [], _, _ => rfl
  | (n, k) :: r, m, acc => by
    unfold cellsFrom
    split
    · rw [cellsFrom_append r (m + 1) ((n, m) :: acc), cellsFrom_append r (m + 1) [(n, m)], List.append_assoc]; rfl
    · exact cellsFrom_append r m acc
def compC (scope : Scope) (C : Fc) (L D I : Addr) : Fc :=
  { A := C.A, env := compEnvC scope (cellsFrom (L + 1) scope.names (clos scope.names C.env.cells [])) L C.env, ent := C.ent,
    mu := L :: D :: I :: ((cellsFrom (L + 1) scope.names []).map (·.2) ++ C.mu), own := none, oc := fun x => scope.names.lookup x == some .cell }
section
variable {M : Model} {A : Around} {E : Value → Shared → Prop} {s : Shared}
theorem newFunctionEnv_around {scope : Scope} {globals : Addr} {cl : List (Str × Addr)} {qual : Str} {outer : Env} {Q : Env → Shared → Prop}
    (h : Q { scope, locals := s.heap.objs.size, globals, cells := cellsFrom (s.heap.objs.size + 1) scope.names cl, qual, func := none, code := outer.code, frame := outer.frame, builtins := outer.builtins }
      { s with heap := pushCells (s.heap.push { cls := .type "dict", data := .dict #[] }) scope.names }) : wpAny M A (newFunctionEnv scope globals cl [] qual none .none (some outer)) Q E s := by
  simp only [newFunctionEnv, Option.isSome_some, if_true]
  refine wpAny_bind (wpAny_alloc ?_)
  refine wpAny_bind (wpAny_layCells _ (fun name kind cells => by cases kind <;> rfl) _ _ _ _ ?_)
  rw [show ({ s with heap := s.heap.push { cls := .type "dict", data := .dict #[] } } : Shared).heap.objs.size = s.heap.objs.size + 1 from Heap.size_push ..]
  exact wpAny_bind (wpAny_pure (wpAny_pure h))
end
section
variable (W : Wd) (p : Bool) (C : Fc) (ρ : Rho)
def Trs (ifs : List Expr) (b : Bool) : Prop := ∀ (s : Shared) (Q : Bool → Shared → Prop) (E : Value → Shared → Prop), Inv W C ρ s → (∀ s', Ext p s s' → Q b s') →
  wpAny W.M C.A (forIn ifs true fun c r => if r = true then do let ok ← isTrue c C.env (eval c C.env); pure (ForInStep.yield ok) else pure (ForInStep.yield r)) Q E s
inductive Cm (tgt : Str) (ifs : List Expr) (elt : Expr) : List AV → List AV → Prop
  | nil : Cm tgt ifs elt [] []
  | keep {x R : AV} {xs Rs : List AV} : Sto W C ρ tgt x → Trs W p C (upd ρ tgt x) ifs true → Ev W p C (upd ρ tgt x) elt R → Cm tgt ifs elt xs Rs → Cm tgt ifs elt (x :: xs) (R :: Rs)
  | skip {x : AV} {xs Rs : List AV} : Sto W C ρ tgt x → Trs W p C (upd ρ tgt x) ifs false → Cm tgt ifs elt xs Rs → Cm tgt ifs elt (x :: xs) Rs
variable {W p C ρ}
theorem Trs.nil : Trs W p C ρ [] true := fun _ _ _ _ k => wpAny_tests_nil (k _ (Ext.refl _ _))
theorem Trs.one {e : Expr} {b : Bool} (h : Tr W p C ρ e b) : Trs W p C ρ [e] b := fun s _ _ I k => wpAny_tests_one (h s _ _ I k)
theorem Cm.map {tgt : Str} {elt : Expr} {α : Type} {xs : List α} {f g : α → AV} (h : ∀ x ∈ xs, Sto W C ρ tgt (f x) ∧ Ev W p C (upd ρ tgt (f x)) elt (g x)) : Cm W p C ρ tgt [] elt (xs.map f) (xs.map g) := by
  induction xs with
  | nil => exact .nil
  | cons x xs ih => exact .keep (h x (.head _)).1 .nil (h x (.head _)).2 (ih fun y hy => h y (.tail _ hy))
theorem Cm.filter {tgt : Str} {elt t : Expr} {α : Type} {xs : List α} {f g : α → AV} {b : α → Bool} (h : ∀ x ∈ xs, Sto W C ρ tgt (f x) ∧ Tr W p C (upd ρ tgt (f x)) t (b x) ∧ (b x = true → Ev W p C (upd ρ tgt (f x)) elt (g x))) :
    Cm W p C ρ tgt [t] elt (xs.map f) ((xs.filter b).map g) := by
  induction xs with
  | nil => exact .nil
  | cons x xs ih =>
    obtain ⟨h1, h2, h3⟩ := h x (.head _)
    have ih := ih fun y hy => h y (.tail _ hy)
    rw [List.filter_cons]
    cases hb : b x with
    | true => rw [hb] at h2; exact .keep h1 (.one h2) (h3 hb) ih
    | false => rw [hb] at h2; exact .skip h1 (.one h2) ih
theorem Cm.len {tgt : Str} {ifs : List Expr} {elt : Expr} {xs Rs : List AV} (h : Cm W p C ρ tgt ifs elt xs Rs) : Rs.length ≤ xs.length := by
  induction h with
  | nil => exact Nat.le_refl _
  | keep _ _ _ _ ih => simpa using ih
  | skip _ _ _ ih => simp; omega
end
def Cap (ρ : Rho) (C C' : Fc) (ρ' : Rho) : Prop := ∀ x A, ρ'.lookup x = some A → ρ.lookup x = some A ∧ C.env.kindOf x ≠ some .local ∧ C'.env.kindOf x ≠ some .local ∧ C'.env.cells.lookup x = C.env.cells.lookup x
theorem Cap.nil {ρ : Rho} {C C' : Fc} : Cap ρ C C' [] := fun _ _ h => by cases h
theorem Cap.cons {ρ : Rho} {C C' : Fc} {x : Str} {A : AV} {ρ' : Rho} {k2 k3 : NameKind} (h1 : ρ.lookup x = some A) (h2 : C.env.kindOf x = some k2) (h3 : C'.env.kindOf x = some k3) (h4 : C'.env.cells.lookup x = C.env.cells.lookup x) (h : Cap ρ C C' ρ') (n2 : k2 ≠ .local := by decide) (n3 : k3 ≠ .local := by decide) : Cap ρ C C' ((x, A) :: ρ') := fun y B e => by
  rw [List.lookup_cons] at e
  by_cases q : y = x
  · subst q
    simp at e; subst e
    exact ⟨h1, by rw [h2]; simpa using n2, by rw [h3]; simpa using n3, h4⟩
  · rw [beq_eq_false_iff_ne.mpr q] at e; exact h y B e
section
variable {W : Wd} {p : Bool} {C : Fc} {ρ ρ' : Rho}
theorem Inv.turnM {s s' : Shared} {I : Addr} (i : Inv W C ρ s) (hm : I ∈ C.mu) (k : ∀ b o, b ≠ I → s.heap.get? b = some o → s'.heap.get? b = some o) (hI : C.ent.get? I = none) (hL : ¬ C.mo I) (hc : ∀ x, C.env.cells.lookup x ≠ some I) (hs : (s'.heap.get? I).isSome = true) : Inv W C ρ s' := by
  have fzk : ∀ a o, fz s.heap C.mu a = some o → fz s'.heap C.mu a = some o := fun a o e =>
    fz.of (k a o (fun q => fz.notin e (q ▸ hm)) (fz.get e)) (fz.notin e)
  have LI : C.env.locals ≠ I := fun q => hL (.inl q.symm)
  refine ⟨i.wf, fun b o e => k b o (fun q => by rw [q, hI] at e; cases e) (i.ent b o e), ?_, fun x A e q => ?_, fun x c q e => ?_, fun b hb => ?_, fun x c h => ?_⟩
  · obtain ⟨m, hn, h⟩ := i.ns
    refine ⟨m, hn.at' fun o e => k _ o LI e, fun x A e q => ?_⟩
    obtain ⟨v, e1, e2⟩ := h x A e q
    refine ⟨v, e1, ?_⟩
    cases A with
    | own xs =>
      obtain ⟨a, n, vs, f1, f2, f3, f4⟩ := e2
      exact ⟨a, n, vs, f1, f2, k _ _ (fun z => hL (.inr (.inr ⟨x, z ▸ f1⟩))) f3, Vs.mono fzk _ _ f4⟩
    | _ => exact V.mono fzk _ _ e2
  · obtain ⟨c, v, e1, ⟨o, e2, e2'⟩, e3⟩ := i.cl x A e q
    exact ⟨c, v, e1, ⟨o, k _ _ (fun z => hc x (z ▸ e1)) e2, e2'⟩, V.mono fzk _ _ e3⟩
  · obtain ⟨v, o, e2, e2'⟩ := i.ce x c q e
    exact ⟨v, o, k _ _ (fun z => hc x (z ▸ e)) e2, e2'⟩
  · by_cases z : b = I
    · subst z; exact hs
    · obtain ⟨o, e⟩ := Option.isSome_iff_exists.mp (i.mub b hb)
      rw [k b o z e]; rfl
  · obtain ⟨o, e⟩ := Option.isSome_iff_exists.mp (i.live x c h)
    rw [k c o (fun z => hc x (z ▸ h)) e]; rfl
structure CmSt (W : Wd) (p : Bool) (scope : Scope) (C : Fc) (ρ : Rho) (s : Shared) (Rs : List AV) (L D : Addr) (s3 : Shared) : Prop where
  fL : s.heap.get? L = none
  fD : s.heap.get? D = none
  LD : D ≠ L
  ext : Ext p s s3
  ns : ∃ m, s3.heap.Ns L m
  res : V (fz s3.heap (L :: C.mu)) (.list Rs) (.ref D)
  inv : Inv W (C.adm L) ρ s3
set_option maxHeartbeats 2000000 in
theorem comp_core {elt iter : Expr} {x : Str} {px : Pos} {ifs : List Expr} {scope : Scope} {pos pos2 : Pos} {xs Rs : List AV} {use : Option (Value → Sem Unit)}
    (hs : Src W p C ρ iter xs) (hL : ∀ L D I, Cm W p (compC scope C L D I) ρ' x ifs elt xs Rs) (hcap : ∀ L D I, Cap ρ C (compC scope C L D I) ρ') (hx : ρ'.lookup x = none)
    (hfr : ∀ y ∈ scope.names, y.2 = .free → (C.env.cells.lookup y.1).isSome = true) (hk : scope.kind = .function) (hnd : (scope.names.map (·.1)).Nodup) (hsz : xs.length ≤ sizeLine)
    (hf : ∀ x, foldedSetIterable iter C.env x = pure x) {s : Shared} {Q E : Value → Shared → Prop} (I : Inv W C ρ s)
    (h : ∀ L D s3, CmSt W p scope C ρ s Rs L D s3 → compPost W.M C.A E use Q (.ref D) L (.ok .next) s3) :
    wpAny W.M C.A (comprehension (.ListComp elt [⟨.Name x px, iter, ifs, 0⟩] scope pos) scope C.env pos2 (newList []) false (eval iter C.env) use) Q E s := by
  refine wpAny_comprehension_free rfl hf (closureFor_eq hfr) hk (fun y hy e => lookup_of_mem hnd (e ▸ hy)) (hs s _ _ I fun it s2 x2 sa => ?_)
  obtain ⟨i0, fp, P, St, rfl, hfr0, Wk, st0, stI, hfp, hfl, hP⟩ := sa.ex
  refine wpAny_newObj_type (newFunctionEnv_around ?_)
  dsimp only
  generalize hD : s2.heap.objs.size = D
  generalize hH2 : s2.heap.push { cls := .type "list", dict := none, data := .seq ([] : List Value).toArray } = H2
  have hLs : H2.objs.size = D + 1 := by rw [← hH2, Heap.size_push, hD]
  generalize hLL : H2.objs.size = L at hLs
  generalize hH3 : H2.push { cls := .type "dict", data := .dict #[] } = H3
  have hH3s : H3.objs.size = L + 1 := by rw [← hH3, Heap.size_push, hLL]
  generalize hH4 : pushCells H3 scope.names = H4
  have ok := cellsFrom_ok scope.names H3 (L + 1) [] ⟨fun _ _ hm => (nomatch hm), List.Pairwise.nil⟩ (by rw [hH3s]; exact Nat.le_refl _)
  rw [hH4, hH3s] at ok
  have k24 : Kp s2.heap H4 := fun b o e => by
    rw [← hH4]; refine pushCells_keeps _ _ b o ?_
    rw [← hH3]; refine Heap.get?_push_of_some _ ?_
    rw [← hH2]; exact Heap.get?_push_of_some _ e
  have fresh2 : ∀ b, D ≤ b → s2.heap.get? b = none := fun b hb => by
    cases e : s2.heap.get? b with
    | none => rfl
    | some o => exact absurd (hD ▸ Heap.lt_size e) (Nat.not_lt.mpr hb)
  have hDL : D < L := hLs ▸ Nat.lt_succ_self D
  have noL : ∀ {b : Addr}, b < D → b = L → False := fun hb e => Nat.lt_asymm (e ▸ hb) hDL
  have noC : ∀ {b : Addr}, b < D → L + 1 ≤ b → False := fun hb e => Nat.lt_asymm (Nat.lt_trans hb hDL) e
  have lt2 : ∀ {b : Addr}, (s2.heap.get? b).isSome = true → b < D := fun {b} e => by
    obtain ⟨o, e⟩ := Option.isSome_iff_exists.mp e
    exact hD ▸ Heap.lt_size e
  have hi0 : i0 < D := lt2 (stI 0 _ st0)
  have I2 : Inv W C ρ s2 := I.ext x2
  have ownc : ∀ y c, scope.names.lookup y = some .cell → (compC scope C L D i0).env.cells.lookup y = some c → (y, c) ∈ cellsFrom (L + 1) scope.names [] := fun y c hy e => by
    have hm := lookup_mem e
    have hm : (y, c) ∈ cellsFrom (L + 1) scope.names (clos scope.names C.env.cells []) := hm
    rw [cellsFrom_append] at hm
    rcases List.mem_append.mp hm with q | q
    · exact q
    · rcases clos_mem q with q | ⟨q, _⟩
      · cases q
      · have := lookup_of_mem hnd q
        rw [hy] at this; cases this
  have allc : ∀ y c, (compC scope C L D i0).env.cells.lookup y = some c → (y, c) ∈ cellsFrom (L + 1) scope.names [] ∨ C.env.cells.lookup y = some c := fun y c e => by
    have hm : (y, c) ∈ cellsFrom (L + 1) scope.names (clos scope.names C.env.cells []) := lookup_mem e
    rw [cellsFrom_append] at hm
    rcases List.mem_append.mp hm with q | q
    · exact .inl q
    · rcases clos_mem q with q | ⟨_, q⟩
      · cases q
      · exact .inr q
  have cLt : ∀ y c, C.env.cells.lookup y = some c → c < D := fun y c e => lt2 (I2.live y c e)
  have entD : ∀ b, D ≤ b → C.ent.get? b = none := fun b hb => by
    cases e : C.ent.get? b with
    | none => rfl
    | some o => have := I2.ent _ _ e; rw [fresh2 b hb] at this; cases this
  have H4L : H4.Ns L fun _ => none := by
    have := Heap.Ns.new H2 (.type "dict")
    rw [hH3, hLL] at this
    exact hH4 ▸ this.keeps (pushCells_keeps _ _)
  have H4D : H4.PlainList D #[] := ⟨0, by
    rw [← hH4]; refine pushCells_keeps _ _ _ _ ?_
    rw [← hH3]; refine Heap.get?_push_of_some _ ?_
    rw [← hH2, ← hD]; exact Heap.get?_push_size _ rfl⟩
  have wfC : WF W (compC scope C L D i0) :=
    { bs := I.wf.bs
      rm := I.wf.rm
      gl := I.wf.gl
      bi := I.wf.bi
      kind := hk
      Lmu := .head _
      Lent := entD _ (Nat.le_of_lt hDL)
      cL := fun y c e => by
        rcases allc y c e with q | q
        · exact Nat.ne_of_gt (ok.empty y c q).2
        · exact Nat.ne_of_lt (Nat.lt_trans (cLt y c q) hDL)
      cdis := fun y z c hy e1 e2 => by
        have q1 := ownc y c (by simpa [compC] using hy) e1
        rcases allc z c e2 with q2 | q2
        · exact cell_name ok.apart q2 q1
        · exact absurd (cLt z c q2) (Nat.not_lt.mpr (Nat.le_trans (Nat.le_of_lt hDL) (Nat.le_of_lt (ok.empty y c q1).2)))
      cmu := fun y c hy e => by
        have q1 := ownc y c (by simpa [compC] using hy) e
        exact ⟨.tail _ (.tail _ (.tail _ (List.mem_append_left _ (List.mem_map.mpr ⟨(y, c), q1, rfl⟩)))), entD _ (Nat.le_trans (Nat.le_of_lt hDL) (Nat.le_of_lt (ok.empty y c q1).2))⟩
      omu := fun y b e => by cases e }
  have fz24 : ∀ a o, fz s2.heap (i0 :: C.mu) a = some o → fz H4 (compC scope C L D i0).mu a = some o := fun a o e => by
    refine fz.of (k24 a o (fz.get e)) fun q => ?_
    have hlt : a < D := lt2 (by rw [fz.get e]; rfl)
    rcases List.mem_cons.mp q with rfl | q
    · exact Nat.lt_asymm hlt hDL
    · rcases List.mem_cons.mp q with rfl | q
      · exact Nat.lt_irrefl _ hlt
      · rcases List.mem_cons.mp q with rfl | q
        · exact fz.notin e (.head _)
        · rcases List.mem_append.mp q with q | q
          · obtain ⟨⟨n, c⟩, hc, rfl⟩ := List.mem_map.mp q
            exact noC hlt (ok.empty n c hc).2
          · exact fz.notin e (.tail _ q)
  have I0 : Inv W (compC scope C L D i0) ρ' { s2 with heap := H4 } :=
    { wf := wfC
      ent := fun b o e => k24 b o (I2.ent b o e)
      ns := ⟨_, H4L, fun y B e q => absurd q (hcap L D i0 y B e).2.2.1⟩
      cl := fun y B e q => by
        obtain ⟨h1, h2, h3, h4⟩ := hcap L D i0 y B e
        obtain ⟨c, v, e1, e2, e3⟩ := I.cl y B h1 h2
        exact ⟨c, v, h4.trans e1, e2.keeps fun b o e => k24 b o (x2.kp b o e), V.mono fz24 _ _ (V.mono (fz.kp x2.kp) _ _ (V.mono (fz.fresh hfr0) _ _ e3))⟩
      ce := fun y c hy e => ⟨_, (ok.empty y c (ownc y c (by simpa [compC] using hy) e)).1⟩
      mub := fun b hb => by
        rcases List.mem_cons.mp hb with rfl | hb
        · obtain ⟨o, _, _, e, _⟩ := H4L; rw [e]; rfl
        · rcases List.mem_cons.mp hb with rfl | hb
          · obtain ⟨n, e⟩ := H4D; rw [e]; rfl
          · rcases List.mem_cons.mp hb with rfl | hb
            · obtain ⟨o, e⟩ := Option.isSome_iff_exists.mp (stI 0 _ st0)
              rw [k24 _ _ e]; rfl
            · rcases List.mem_append.mp hb with hb | hb
              · obtain ⟨⟨n, c⟩, hc, rfl⟩ := List.mem_map.mp hb
                obtain ⟨o, e, _⟩ := (ok.empty n c hc).1
                rw [e]; rfl
              · exact MuOk.kp I2.mub k24 b hb
      live := fun y c e => by
        rcases allc y c e with q | q
        · obtain ⟨o, e, _⟩ := (ok.empty y c q).1
          rw [e]; rfl
        · obtain ⟨o, e⟩ := Option.isSome_iff_exists.mp (I2.live y c q)
          rw [k24 _ _ e]; rfl }
  have old : ∀ b o, s2.heap.get? b = some o → b ≠ i0 → ¬ (compC scope C L D i0).mo b ∧ b ≠ i0 ∧ b ≠ D := fun b o e hb => by
    have hlt : b < D := lt2 (by rw [e]; rfl)
    refine ⟨fun q => ?_, hb, Nat.ne_of_lt hlt⟩
    rcases q with q | ⟨y, hy, q⟩ | ⟨y, q⟩
    · exact noL hlt q
    · exact noC hlt (ok.empty y b (ownc y b (by simpa [compC] using hy) q)).2
    · cases q
  have fpo : ∀ b ∈ fp, b ≠ D ∧ ¬ (compC scope C L D i0).mo b := fun b hb => by
    have hlt : b < D := hD ▸ hfl b hb
    refine ⟨Nat.ne_of_lt hlt, fun q => ?_⟩
    rcases q with q | ⟨y, hy, q⟩ | ⟨y, q⟩
    · exact noL hlt q
    · exact noC hlt (ok.empty y b (ownc y b (by simpa [compC] using hy) q)).2
    · cases q
  have moD : ¬ (compC scope C L D i0).mo D := fun q => by
    rcases q with q | ⟨y, hy, q⟩ | ⟨y, q⟩
    · exact Nat.ne_of_lt hDL q
    · exact Nat.lt_asymm hDL (ok.empty y D (ownc y D (by simpa [compC] using hy) q)).2
    · cases q
  have moI : ¬ (compC scope C L D i0).mo i0 := fun q => by
    rcases q with q | ⟨y, hy, q⟩ | ⟨y, q⟩
    · exact noL hi0 q
    · exact noC hi0 (ok.empty y i0 (ownc y i0 (by simpa [compC] using hy) q)).2
    · cases q
  have key : codeAny W.M C.A (.compLoop (.ListComp elt [⟨.Name x px, iter, ifs, 0⟩] scope pos) 0 (.ref i0) (.ref D) (compC scope C L D i0).env)
      (compPost W.M C.A E use Q (.ref D) L) { s2 with heap := H4 } := by
    refine codeAny_compLoop_tests (prog := W.prog) (w := W.w) (fun n s' => ∃ i ys Rd Rr, n = xs.length + 1 - i ∧ i ≤ xs.length ∧ Rd ++ Rr = Rs ∧ Rd.length ≤ i ∧ Cm W p (compC scope C L D i0) ρ' x ifs elt (xs.drop i) Rr ∧ Inv W (compC scope C L D i0) ρ' s' ∧ St i s'.heap ∧
      s'.heap.PlainList D ys ∧ Vs (fz s'.heap (compC scope C L D i0).mu) Rd ys.toList ∧ Glo p s2 s' ∧ (∀ b o, ¬ (compC scope C L D i0).mo b → b ≠ i0 → b ≠ D → H4.get? b = some o → s'.heap.get? b = some o)) ?_ (xs.length + 1)
      ⟨0, #[], [], Rs, rfl, Nat.zero_le _, rfl, Nat.le_refl _, by simpa using hL L D i0, I0, Wk.frame _ _ _ st0 fun b _ o e => k24 b o e, H4D, Vs.nil, ⟨rfl, rfl, GM.refl p _⟩, fun _ _ _ _ _ e => e⟩
    rintro n s' ⟨i, ys, Rd, Rr, rfl, hi, hR, hRi, hl, Ii, st, hp, hv, gl, kk⟩
    by_cases hlt : i < xs.length
    · obtain ⟨x', rest, hd⟩ : ∃ x rest, xs.drop i = x :: rest := ⟨xs[i], xs.drop (i + 1), by rw [List.drop_eq_getElem_cons hlt]⟩
      have hx' : xs[i]? = some x' := by
        have := congrArg (·[0]?) hd
        simpa using this
      have hrest : xs.drop (i + 1) = rest := by
        have := congrArg List.tail hd
        simpa using this
      refine Wk.item i s' _ _ hlt st fun v h1 tk1 hPv st1 k1 => ?_
      obtain ⟨x'', ex', vx⟩ := hP i v hlt hPv
      obtain rfl : x'' = x' := by rw [hx'] at ex'; exact (Option.some.inj ex').symm
      have k1' : ∀ b o, b ≠ i0 → s'.heap.get? b = some o → h1.get? b = some o := fun b o nb e => k1 b o (by simpa using nb) e
      have cellsI : ∀ y, (compC scope C L D i0).env.cells.lookup y ≠ some i0 := fun y q => by
        rcases allc y i0 q with q | q
        · exact noC hi0 (ok.empty y i0 q).2
        · exact (I.notcell hfr0 I.live) y q
      have cellsD : ∀ y, (compC scope C L D i0).env.cells.lookup y ≠ some D := fun y q => by
        rcases allc y D q with q | q
        · exact Nat.lt_asymm hDL (ok.empty y D q).2
        · exact Nat.lt_irrefl _ (cLt y D q)
      have hentI : (compC scope C L D i0).ent.get? i0 = none := by
        show C.ent.get? i0 = none
        cases e : C.ent.get? i0 with
        | none => rfl
        | some o => rw [I.ent _ _ e] at hfr0; cases hfr0
      have I1 : Inv W (compC scope C L D i0) ρ' { s' with heap := h1, toks := tk1 } := Ii.turnM (.tail _ (.tail _ (.head _))) k1' hentI moI cellsI (stI _ _ st1)
      have vx1 : V (fz h1 (compC scope C L D i0).mu) x'' v := V.mono (fun a o e => by
        have hne : a ≠ i0 := fun q => fz.notin e (q ▸ .head _)
        obtain ⟨q1, q2, q3⟩ := old a o (fz.get e) hne
        exact fz.of (k1' a o hne (kk a o q1 q2 q3 (k24 a o (fz.get e)))) (fz.notin (fz24 a o e))) _ _ vx
      rw [hd] at hl
      have weakx : ∀ y A, ρ'.lookup y = some A → (upd ρ' x x'').lookup y = some A := fun y A e => by
        rw [upd_look]
        by_cases q : y = x
        · subst q; rw [hx] at e; cases e
        · rw [if_neg q]; exact e
      have hp1 : h1.PlainList D ys := hp.at fun o e => k1' D o (Nat.ne_of_gt hi0) e
      have fz1 : ∀ a o, fz s'.heap (compC scope C L D i0).mu a = some o → fz h1 (compC scope C L D i0).mu a = some o := fun a o e =>
        fz.of (k1' a o (fun q => fz.notin e (q ▸ .tail _ (.tail _ (.head _)))) (fz.get e)) (fz.notin e)
      have toS : ∀ (s3 : Shared), Stm p (compC scope C L D i0) { s' with heap := h1, toks := tk1 } s3 → St (i + 1) s3.heap ∧ s3.heap.PlainList D ys ∧ Vs (fz s3.heap (compC scope C L D i0).mu) Rd ys.toList ∧ Glo p s2 s3 ∧
          (∀ b o, ¬ (compC scope C L D i0).mo b → b ≠ i0 → b ≠ D → H4.get? b = some o → s3.heap.get? b = some o) := fun s3 x3 => by
        refine ⟨Wk.frame _ _ _ st1 fun b hb o e => x3.km b o (fpo b hb).2 e, hp1.at fun o e => x3.km D o moD e, ?_, ?_, fun b o n1 n2 n3 e => x3.km b o n1 (k1' b o n2 (kk b o n1 n2 n3 e))⟩
        · exact Vs.mono (fun a o e => fz.of (x3.km a o (fun q => fz.notin e (wfC.mo' q)) (fz.get e)) (fz.notin e)) _ _ (Vs.mono fz1 _ _ hv)
        · have g1 : Glo p s' { s' with heap := h1, toks := tk1 } := ⟨rfl, rfl, GM.refl p _⟩
          exact (gl.trans g1).trans x3.toGlo
      cases hl with
      | keep g1 g2 g3 g4 =>
        refine PyProof.Rows.assign_Name (g1 _ v _ _ I1 vx1 fun s3 x3 I3 => ?_)
        refine g2 s3 _ _ I3 fun s4 x4 => ?_
        rw [if_pos rfl]
        refine g3 s4 _ _ (I3.ext x4) fun r s5 x5 v5 => ?_
        obtain ⟨b1, b2, b3, b4, b5⟩ := toS s5 ((x3.of_true.trans x4.stm).trans x5.stm)
        have hys : ys.size ≤ sizeLine := by
          have e1 := b3.len
          have e2 : ys.toList.length = ys.size := by simp
          omega
        refine wpAny_list_append_plain (hsz := hys) b2 fun h6 hl6 hs6 => ?_
        have I5 := (I3.ext x4).ext x5
        refine ⟨xs.length + 1 - (i + 1), by omega, i + 1, _, Rd ++ [_], _, rfl, hlt, by rw [List.append_assoc]; exact hR, by rw [List.length_append, List.length_singleton]; omega, by rw [hrest]; exact g4, ?_, ?_, hl6, ?_, ⟨b4.dr, b4.os, b4.ge⟩, ?_⟩
        · exact (I5.weak weakx).turnM (.tail _ (.head _)) (fun b o n e => (hs6.2 b n).trans e) (entD _ (Nat.le_refl _)) moD cellsD (by obtain ⟨n, e⟩ := hl6; rw [e]; rfl)
        · exact Wk.frame _ _ _ b1 fun b hb o e => (hs6.2 b (fpo b hb).1).trans e
        · rw [Array.toList_push]
          have fz6 : ∀ a o, fz s5.heap (compC scope C L D i0).mu a = some o → fz h6 (compC scope C L D i0).mu a = some o := fz.same hs6 (.tail _ (.head _))
          exact (Vs.mono fz6 _ _ b3).append (Vs.cons (V.mono fz6 _ _ v5) Vs.nil)
        · exact fun b o n1 n2 n3 e => (hs6.2 b n3).trans (b5 b o n1 n2 n3 e)
      | skip g1 g2 g4 =>
        refine PyProof.Rows.assign_Name (g1 _ v _ _ I1 vx1 fun s3 x3 I3 => ?_)
        refine g2 s3 _ _ I3 fun s4 x4 => ?_
        rw [if_neg (by decide)]
        obtain ⟨b1, b2, b3, b4, b5⟩ := toS s4 (x3.of_true.trans x4.stm)
        exact ⟨xs.length + 1 - (i + 1), by omega, i + 1, ys, Rd, _, rfl, hlt, hR, by omega, by rw [hrest]; exact g4, (I3.ext x4).weak weakx, b1, b2, b3, b4, b5⟩
    · have hin : i = xs.length := by omega
      subst hin
      rw [List.drop_length] at hl
      cases hl
      refine Wk.done s' _ _ st fun h1 tk1 k1 => ?_
      have k1' : ∀ b o, b ≠ i0 → s'.heap.get? b = some o → h1.get? b = some o := fun b o nb e => k1 b o (by simpa using nb) e
      rw [List.append_nil] at hR
      subst hR
      have kp : Kp s2.heap s'.heap → True := fun _ => trivial
      have kS : ∀ b o, b ≠ i0 → s2.heap.get? b = some o → h1.get? b = some o := fun b o hb e => by
        obtain ⟨q1, q2, q3⟩ := old b o e hb
        exact k1' b o hb (kk b o q1 q2 q3 (k24 b o e))
      have kK : Kp s.heap h1 := fun b o e => kS b o (fun q => by rw [q, hfr0] at e; cases e) (x2.kp b o e)
      have fs : ∀ b, D ≤ b → s.heap.get? b = none := fun b hb => x2.fresh (fresh2 b hb)
      have hp1 : h1.PlainList D ys := hp.at fun o e => k1' D o (Nat.ne_of_gt hi0) e
      have hnsL : ∃ m, h1.Ns L m := by
        obtain ⟨m, hn, _⟩ := Ii.ns
        exact ⟨m, hn.at' fun o e => k1' L o (Nat.ne_of_gt (Nat.lt_trans hi0 hDL)) e⟩
      refine h L D _ ⟨fs _ (Nat.le_of_lt hDL), fs _ (Nat.le_refl _), Nat.ne_of_lt hDL, ⟨(x2.toGlo.trans gl).trans ⟨rfl, rfl, GM.refl p _⟩, kK⟩, hnsL, ?_, ?_⟩
      · obtain ⟨n, e⟩ := hp1
        refine V.list (n := n) (vs := ys.toList) (fz.of (by rw [e]) ?_) ?_
        · intro q
          rcases List.mem_cons.mp q with q | q
          · exact Nat.ne_of_lt hDL q
          · exact I.new (fs D (Nat.le_refl _)) q
        · refine Vs.mono (fun a o e => ?_) _ _ hv
          have hn := fz.notin e
          refine fz.of (k1' a o (fun q => hn (q ▸ .tail _ (.tail _ (.head _)))) (fz.get e)) fun q => ?_
          rcases List.mem_cons.mp q with rfl | q
          · exact hn (.head _)
          · exact hn (.tail _ (.tail _ (.tail _ (List.mem_append_right _ q))))
      · obtain ⟨m, hn⟩ := hnsL
        exact I.adm (fs _ (Nat.le_of_lt hDL)) kK (by obtain ⟨o, _, _, e, _⟩ := hn; rw [e]; rfl)
  exact codeAny_compStart_list key (Wk.self 0 _ _ _ (Wk.frame _ _ _ st0 fun b _ o e => k24 b o e) key)
theorem frees {names : List (Str × NameKind)} {cs : List (Str × Addr)} (h : (names.all fun y => !(y.2 == .free) || (cs.lookup y.1).isSome) = true) : ∀ y ∈ names, y.2 = .free → (cs.lookup y.1).isSome = true := fun y hy e => by
  have := List.all_eq_true.mp h y hy
  rw [e] at this
  simpa using this
theorem Ev.comp {elt iter : Expr} {x : Str} {px : Pos} {ifs : List Expr} {scope : Scope} {pos : Pos} {xs Rs : List AV} (ρ' : Rho)
    (hs : Src W p C ρ iter xs) (hL : ∀ L D I, Cm W p (compC scope C L D I) ρ' x ifs elt xs Rs) (hcap : ∀ L D I, Cap ρ C (compC scope C L D I) ρ') (hx : ρ'.lookup x = none)
    (hsz : xs.length ≤ sizeLine) (hfr : (scope.names.all fun y => !(y.2 == .free) || (C.env.cells.lookup y.1).isSome) = true := by rfl) (hk : scope.kind = .function := by rfl) (hnd : (scope.names.map (·.1)).Nodup := by decide)
    (hf : ∀ x, foldedSetIterable iter C.env x = pure x := by intro _; rfl) : Ev W p C ρ (.ListComp elt [⟨.Name x px, iter, ifs, 0⟩] scope pos) (.list Rs) := by
  intro s Q E I k
  rw [eval_ListComp]
  show wpAny W.M C.A (comprehension (.ListComp elt [⟨.Name x px, iter, ifs, 0⟩] scope pos) scope C.env _ (newList []) false (eval iter C.env) none) _ _ s
  refine comp_core (use := none) hs hL hcap hx (frees hfr) hk hnd hsz hf I fun L D s3 c => ?_
  obtain ⟨m, hn⟩ := c.ns
  refine ⟨m, hn, fun h' sb => k _ _ ?_ ?_⟩
  · refine ⟨⟨c.ext.dr, c.ext.os, c.ext.ge⟩, fun b o e => (sb.2 b (fun q => ?_)).trans (c.ext.kp b o e)⟩
    rw [q, c.fL] at e; cases e
  · exact V.mono (fz.sub fun a ha => .tail _ ha) _ _ (V.mono (fz.same sb (.head _)) _ _ c.res)
theorem Ex.assignComp {elt iter : Expr} {x y : Str} {px py : Pos} {ifs : List Expr} {scope : Scope} {pos spos : Pos} {xs Rs : List AV} (ρ' : Rho)
    (hs : Src W p C ρ iter xs) (hL : ∀ L D I, Cm W p (compC scope C L D I) ρ' x ifs elt xs Rs) (hcap : ∀ L D I, Cap ρ C (compC scope C L D I) ρ') (hx : ρ'.lookup x = none)
    (hsz : xs.length ≤ sizeLine) (hst : ∀ L, Sto W (C.adm L) ρ y (.list Rs)) (hfr : (scope.names.all fun y => !(y.2 == .free) || (C.env.cells.lookup y.1).isSome) = true := by rfl) (hk : scope.kind = .function := by rfl) (hnd : (scope.names.map (·.1)).Nodup := by decide)
    (hsw : swapsWith (.ListComp elt [⟨.Name x px, iter, ifs, 0⟩] scope pos) (some (.Name y py)) spos.line C.env = pure true := by rfl)
    (hf : ∀ x, foldedSetIterable iter C.env x = pure x := by intro _; rfl) : Ex W p C ρ (.Assign [.Name y py] (.ListComp elt [⟨.Name x px, iter, ifs, 0⟩] scope pos) spos) .next (upd ρ y (.list Rs)) := by
  intro s Q E I k
  rw [exec_Assign_Name_used _ _ _ _ hsw]
  refine wpAny_bind (wpAny_standAt (wpAny_bind ?_))
  show wpAny _ C.A (do let _ ← comprehension (.ListComp elt [⟨.Name x px, iter, ifs, 0⟩] scope pos) scope C.env _ (newList []) false (eval iter C.env) (some (PySem.assign (.Name y py) C.env))) _ _ s
  refine wpAny_bind (wpAny_mono (comp_core (use := some (PySem.assign (.Name y py) C.env)) (Q := fun _ s' => Q .next s') hs hL hcap hx (frees hfr) hk hnd hsz hf I fun L D s3 c => ?_)
    (fun _ s' hq => wpAny_pure (wpAny_pure hq)) fun _ _ e => e)
  show wpAny _ C.A (PySem.assign (.Name y py) C.env (.ref D)) _ _ _
  have moL : ¬ C.mo L := I.notmo c.fL
  refine PyProof.Rows.assign_Name (hst L s3 (.ref D) _ _ c.inv c.res fun s4 x4 I4 => ?_)
  obtain ⟨m, hn⟩ := c.ns
  refine ⟨m, hn.at' fun o e => x4.km L o moL e, fun h' sb => ?_⟩
  have entL : C.ent.get? L = none := by
    cases e : C.ent.get? L with
    | none => rfl
    | some o => have := I.ent _ _ e; rw [c.fL] at this; cases this
  have I5 : Inv W C (upd ρ y (.list Rs)) { s4 with heap := h' } := I4.leave I.wf (fun b o n e => (sb.2 b n).trans e) entL moL (I.notcell c.fL I.live) (I.new c.fL)
  refine k _ _ ?_ I5 rfl
  have g1 : Glo p s s3 := c.ext.toGlo
  have g2 : Glo p s3 s4 := (Stm.of_true x4).toGlo
  have g3 : Glo p s4 { s4 with heap := h' } := ⟨rfl, rfl, GM.refl p _⟩
  refine ⟨(g1.trans g2).trans g3, fun b o n e => ?_⟩
  exact (sb.2 b (fun q => by rw [q, c.fL] at e; cases e)).trans (x4.km b o n (c.ext.kp b o e))
end
end SC
namespace SC
open PySem PySem.Spec PySem.Calls PyProof.Rows PySem.W
def Fc.addOwn (C : Fc) (x : Str) (a : Addr) : Fc := { C with mu := a :: C.mu, own := some (x, a) }
section
variable {W : Wd} {p : Bool} {C : Fc} {ρ : Rho}
theorem VO.noown {h : Heap} {x : Str} {A : AV} {v : Value} (hC : C.own = none) (y : VO C h x A v) : V (fz h C.mu) A v := by
  cases A with
  | own xs => obtain ⟨a, n, vs, e1, _⟩ := y; rw [hC] at e1; cases e1
  | _ => exact y
theorem Inv.addOwn {s s' : Shared} {a : Addr} {x : Str} (i : Inv W C ρ s) (hC : C.own = none) (ha : s.heap.get? a = none) (k : Kp s.heap s'.heap) (hs : (s'.heap.get? a).isSome = true) : Inv W (C.addOwn x a) ρ s' where
  wf :=
    { bs := i.wf.bs
      rm := i.wf.rm
      gl := i.wf.gl
      bi := i.wf.bi
      kind := i.wf.kind
      Lmu := .tail _ i.wf.Lmu
      Lent := i.wf.Lent
      cL := i.wf.cL
      cdis := i.wf.cdis
      cmu := fun x c o h => ⟨.tail _ (i.wf.cmu x c o h).1, (i.wf.cmu x c o h).2⟩
      omu := fun y b h => by
        obtain ⟨rfl, rfl⟩ : x = y ∧ a = b := by have h : some (x, a) = some (y, b) := h; cases h; exact ⟨rfl, rfl⟩
        refine ⟨.head _, ?_, fun q => i.new ha (q ▸ i.wf.Lmu), fun z c hz q => (i.notcell ha i.live) z (q ▸ hz)⟩
        show C.ent.get? a = none
        cases e : C.ent.get? a with
        | none => rfl
        | some o => rw [i.ent _ _ e] at ha; cases ha }
  ent := fun b o e => k b o (i.ent b o e)
  ns := by
    obtain ⟨m, hn, h⟩ := i.ns
    exact ⟨m, hn.keeps k, fun x A e q => by obtain ⟨v, e1, e2⟩ := h x A e q; exact ⟨v, e1, VO.of_V (V.mono (fz.kp k) _ _ (V.mono (fz.fresh ha) _ _ (e2.noown hC)))⟩⟩
  cl := fun x A e q => by
    obtain ⟨c, v, e1, e2, e3⟩ := i.cl x A e q
    exact ⟨c, v, e1, e2.keeps k, V.mono (fz.kp k) _ _ (V.mono (fz.fresh ha) _ _ e3)⟩
  ce := fun x c q e => by obtain ⟨v, h⟩ := i.ce x c q e; exact ⟨v, h.keeps k⟩
  mub := fun b hb => by
    rcases List.mem_cons.mp hb with rfl | hb
    · exact hs
    · exact MuOk.kp i.mub k b hb
  live := fun x c h => by
    obtain ⟨o, e⟩ := Option.isSome_iff_exists.mp (i.live x c h)
    rw [k c o e]; rfl
theorem Run.own {x : Str} {p1 p2 pos : Pos} {rest : List Stmt} {R : AV} {mu : List Addr} (hC : C.own = none) (hk : C.env.kindOf x = some .local)
    (h : ∀ a, a ∉ C.mu → Run W p (C.addOwn x a) mu (upd ρ x (.own [])) rest R) (hs : swapsWith (.List [] p2) (some (.Name x p1)) pos.line C.env = pure false := by rfl) :
    Run W p C mu ρ (.Assign [.Name x p1] (.List [] p2) pos :: rest) R := by
  intro s Q E I k
  refine wpAny_execs_cons (wpAny_Assign_Name (List_ (args_nil (wpAny_newObj_type ?_ (Nat.zero_le _)))) hs)
  have ha := get_size s.heap
  have hg : (s.heap.push (lstO [] 0)).get? s.heap.objs.size = some (lstO [] 0) := Heap.get?_push_size _ rfl
  have I1 : Inv W (C.addOwn x s.heap.objs.size) ρ { s with heap := s.heap.push (lstO [] 0) } := I.addOwn hC ha (kpush _ _) (by show (Heap.get? (s.heap.push _) _).isSome = true; rw [hg]; rfl)
  obtain ⟨m, hn, hm⟩ := I1.ns
  refine wpAny_storeName_local (env := C.env) hk hn (fun h' hn' hs' => ?_) (by rw [I.wf.kind]; rfl)
  have I2 : Inv W (C.addOwn x s.heap.objs.size) (upd ρ x (.own [])) { s with heap := h', toks := s.toks + 1 } :=
    I1.setL (s' := { s with heap := h', toks := s.toks + 1 }) (v := .ref s.heap.objs.size) (A := .own []) ⟨_, 0, [], rfl, rfl, hg, Vs.nil⟩ hs' (fun m' hm' => by
      rw [show m' = m from (Heap.Ns.eq_nsMap hm').trans (Heap.Ns.eq_nsMap hn).symm]; exact hn') hk
  exact h _ (I.new ha) _ _ _ I2 fun v s2 g kp hv => k v s2 ⟨g.dr, g.os, g.ge⟩ kp hv
theorem Run.freeze {x : Str} {rest : List Stmt} {R : AV} {mu : List Addr} {a : Addr} {xs : List AV} (hC : C.own = none) (ha : a ∉ C.mu) (hk : C.env.kindOf x = some .local) (hx : ρ.lookup x = some (.own xs))
    (h : Run W p C mu (upd ρ x (.list xs)) rest R) : Run W p (C.addOwn x a) mu ρ rest R := by
  intro s Q E I k
  have wf : WF W C :=
    { bs := I.wf.bs
      rm := I.wf.rm
      gl := I.wf.gl
      bi := I.wf.bi
      kind := I.wf.kind
      Lmu := (List.mem_cons.mp I.wf.Lmu).resolve_left fun q => (I.wf.omu x a rfl).2.2.1 q.symm
      Lent := I.wf.Lent
      cL := I.wf.cL
      cdis := I.wf.cdis
      cmu := fun y c o e => ⟨(List.mem_cons.mp (I.wf.cmu y c o e).1).resolve_left (fun q => (I.wf.omu x a rfl).2.2.2 y c e q), (I.wf.cmu y c o e).2⟩
      omu := fun y b e => by rw [hC] at e; cases e }
  have sub : ∀ b o, fz s.heap (C.addOwn x a).mu b = some o → fz s.heap C.mu b = some o := fz.sub fun b hb => .tail _ hb
  have I2 : Inv W C (upd ρ x (.list xs)) s :=
    { wf := wf
      ent := I.ent
      ns := by
        obtain ⟨m, hn, hm⟩ := I.ns
        refine ⟨m, hn, fun y A e q => ?_⟩
        rw [upd_look] at e
        by_cases hy : y = x
        · subst hy
          rw [if_pos rfl] at e; cases e
          obtain ⟨v, e1, b, n, vs, f1, f2, f3, f4⟩ := hm y _ hx q
          have f1 : some (y, a) = some (y, b) := f1
          cases f1
          exact ⟨v, e1, by rw [f2]; exact V.list (fz.of f3 ha) (Vs.mono sub _ _ f4)⟩
        · rw [if_neg hy] at e
          obtain ⟨v, e1, e2⟩ := hm y A e q
          refine ⟨v, e1, ?_⟩
          cases A with
          | own ys =>
            obtain ⟨b, n, vs, f1, _⟩ := e2
            have f1 : some (x, a) = some (y, b) := f1
            cases f1; exact absurd rfl hy
          | _ => exact V.mono sub _ _ e2
      cl := fun y A e q => by
        rw [upd_look] at e
        by_cases hy : y = x
        · subst hy; exact absurd hk q
        · rw [if_neg hy] at e
          obtain ⟨c, v, e1, e2, e3⟩ := I.cl y A e q
          exact ⟨c, v, e1, e2, V.mono sub _ _ e3⟩
      ce := I.ce
      mub := fun b hb => I.mub b (.tail _ hb)
      live := I.live }
  exact h s Q E I2 k
theorem V.own_not {g : Addr → Option Obj} {xs : List AV} {v : Value} (h : V g (.own xs) v) : False := by simp [V] at h
theorem Ex.append {x : Str} {e : Expr} {R : AV} {xs : List AV} {a : Addr} {p1 p2 p3 pos : Pos} {pl : Sem Bool} (hC : C.own = some (x, a)) (hl : ρ.lookup x = some (.own xs)) (hk : C.env.kindOf x = some .local) (he : Ev W p C ρ e R) (hsz : xs.length ≤ sizeLine)
    (hd : (x == ("__debug__" : Str)) = false := by decide)
    (hE : eval (.Call (.Attribute (.Name x p1) "append" p2) [e] [] p3) C.env = (do
      let ov ← eval (.Name x p1) C.env
      standAt p2.atName
      let (f, first) ← holding [ov] (getMethod ov "append" pl)
      callWith p3 f first (backTo p3 (starEach [e] C.env)) []) := by rfl)
    (hst : starEach [e] C.env = (false, eval e C.env) :: starEach [] C.env := by rfl)
    (hi : interactive C.env = false := by rfl) (hs : swapsWith (.Call (.Attribute (.Name x p1) "append" p2) [e] [] p3) none pos.line C.env = pure false := by rfl) :
    Ex W p C ρ (.Expr (.Call (.Attribute (.Name x p1) "append" p2) [e] [] p3) pos) .next (upd ρ x (.own (xs ++ [R]))) := by
  intro s Q E I k
  obtain ⟨m, hn, hm⟩ := I.ns
  obtain ⟨v, e1, b, n, vs, f1, rfl, f3, f4⟩ := hm x _ hl hk
  obtain rfl : a = b := by rw [hC] at f1; cases f1; rfl
  refine wpAny_Expr (MethodCall_ (pl := pl) (wpAny_Name (wpAny_loadName_local I.wf.kind hk hn e1 ?_) hd) hE) hi hs
  refine getMethod_list_of PySem.F.slot_list_append PySem.F.type_list_append (isL f3) ⟨_, f3, rfl⟩ ?_
  refine callWith_method1 ((Evs.cons he Evs.nil hst) p3 s _ _ I fun us s1 x1 v1 => ?_) hst rfl
  obtain ⟨u, rfl, hu⟩ := one v1
  have f3' := x1.kp _ _ f3
  have I1 := I.ext x1
  have f4' := Vs.mono (fz.kp x1.kp) _ _ f4
  refine wpAny_list_append_plain (hsz := by rw [List.size_toArray, f4'.len]; exact hsz) ⟨n, f3'⟩ fun h' hl' hs' => ?_
  obtain ⟨n', hl'⟩ := hl'
  have hl' : h'.get? a = some (lstO (vs ++ [u]) n') := by rw [hl']; simp
  have om := I.wf.omu x a hC
  have fs : ∀ c o, fz s1.heap C.mu c = some o → fz h' C.mu c = some o := fz.same hs' om.1
  refine k .next _ ⟨⟨x1.dr, x1.os, x1.ge⟩, fun c o nm ec => (hs'.2 c fun q => nm (.inr (.inr ⟨x, by rw [hC, q]⟩))).trans (x1.kp c o ec)⟩ ?_ rfl
  obtain ⟨m1, hn1, hm1⟩ := I1.ns
  exact
    { wf := I1.wf
      ent := fun c o ec => (hs'.2 c fun q => by rw [q, om.2.1] at ec; cases ec).trans (I1.ent c o ec)
      ns := by
        refine ⟨m1, hn1.sameBut hs' (Ne.symm om.2.2.1), fun y A ey q => ?_⟩
        rw [upd_look] at ey
        by_cases hy : y = x
        · subst hy
          rw [if_pos rfl] at ey; cases ey
          obtain ⟨w1, g1, b2, n2, ws, g2, rfl, g3, g4⟩ := hm1 y _ hl q
          obtain rfl : a = b2 := by rw [hC] at g2; cases g2; rfl
          exact ⟨_, g1, a, n', vs ++ [u], hC, rfl, hl', (Vs.mono fs _ _ f4').append (Vs.cons (V.mono fs _ _ hu) Vs.nil)⟩
        · rw [if_neg hy] at ey
          obtain ⟨w1, g1, g2⟩ := hm1 y A ey q
          refine ⟨w1, g1, ?_⟩
          cases A with
          | own ys =>
            obtain ⟨b2, n2, ws, g3, _⟩ := g2
            rw [hC] at g3; cases g3; exact absurd rfl hy
          | _ => exact V.mono fs _ _ g2
      cl := fun y A ey q => by
        rw [upd_look] at ey
        by_cases hy : y = x
        · subst hy; exact absurd hk q
        · rw [if_neg hy] at ey
          obtain ⟨c, v', g1, g2, g3⟩ := I1.cl y A ey q
          exact ⟨c, v', g1, g2.sameBut hs' (om.2.2.2 _ _ g1), V.mono fs _ _ g3⟩
      ce := fun y c q ey => by
        obtain ⟨v', g⟩ := I1.ce y c q ey
        exact ⟨v', g.sameBut hs' (om.2.2.2 _ _ ey)⟩
      mub := fun c hc => by
        by_cases q : c = a
        · subst q
          show (h'.get? c).isSome = true
          rw [hl']; rfl
        · show (h'.get? c).isSome = true
          rw [hs'.2 c q]; exact I1.mub c hc
      live := fun y c hc => by
        show (h'.get? c).isSome = true
        rw [hs'.2 c (om.2.2.2 y c hc)]; exact I1.live y c hc }
end
end SC
namespace SC
open PySem PySem.Spec PySem.Calls PyProof.Rows PySem.W
section
variable {prog : Program} {w : World}
theorem Bui.sum_tup (ns : List Int) : Bui prog w "sum" [.tup (ns.map .int)] (.int ns.sum) := by
  intro Ar mu s vs rm _ hv Q E h
  obtain ⟨v, rfl, k⟩ := one hv
  obtain ⟨a, n, ws, rfl, e, q⟩ := k.tup_is
  have hi := q.ints
  obtain ⟨xs, ex⟩ := hi.allInts.items
  have hl := isT (fz.get e)
  rw [ex] at hl
  refine ktm_sumG rm.hd hl fun h' tk t' hk => ?_
  have en : ns = xs.toList.map (·.1) := by rw [← hi.numsOf, ← nums_intItems, ← ex]
  have : preSum (numAt xs) xs.size = ns.sum := by
    rw [preSum_eq, List.take_of_length_le (by simp), en]
  rw [this]
  exact h _ _ (Ext.mk' hk) V.int
theorem getItem_tuple_from0 {A : Around} {E : Value → Shared → Prop} {s : Shared} {t sl : Addr} {items : Array Value} {u : Tok} {Q : Value → Shared → Prop} (ht : IsTup s.heap t items) (hs : s.heap.IsSliceOf sl (.int ((0 : Nat) : Int) u) .none .none)
    (h : Q (.ref t) s) : wpAny (model prog w) A (getItem (.ref t) (.ref sl)) Q E s := by
  obtain ⟨os, hos, hcs, hds⟩ := id hs
  have hTs : s.TypeIs (.ref sl) "slice" := ⟨os, hos, hcs⟩
  unfold getItem
  try with_reducible refine wpAny_holding ?_
  first | refine wpAny_bind (wpAny_pure ?_) | skip
  refine wpAny_bind (wpAny_sequenceKey ht.typeIs (by decide) ?_)
  refine wpAny_bind (wpAny_callSpecial?_slot (name := Str.ofString "__getitem__") ht.typeIs PyProof.Rows.slot_tuple_getitem
    (wpAny_call_entry PyProof.Rows.slot_tuple_getitem ht.typeIs PyProof.Rows.entry_tuple_getitem ?_ (PyProof.Rows.args_tuple_getitem _ _)))
  show wpAny _ _ (Builtin.Tuple.tupleItemsOf (.ref t) >>= _) _ _ s
  refine wpAny_bind (tupleItemsOf_ ht ?_)
  refine wpAny_bind (wpAny_typeOf hTs ?_)
  rw [if_pos (by decide)]
  refine wpAny_bind (sliceApplied_from hs (Nat.zero_le _) ?_)
  have hno : (((0 : Nat) : Int) == 0 && (1 : Int) == 1 && (items.size - 0) == items.size) = true := by simp
  show wpAny _ _ (if (((0 : Nat) : Int) == 0 && (1 : Int) == 1 && (items.size - 0) == items.size) = true then _ else _) _ _ s
  rw [if_pos hno]
  refine wpAny_bind (m := Builtin.Tuple.tupleIsExact _) (wpAny_bind (wpAny_typeOf ht.typeIs (wpAny_pure ?_)))
  show wpAny _ _ (if (Value.type "tuple" == .type "tuple") = true then _ else _) _ _ s
  rw [if_pos (by decide)]
  exact wpAny_bind (wpAny_rule (wpAny_pure ⟨_, rfl, wpAny_pure h⟩))
def slc (x : Str) (l u : Option Int) : Str :=
  if (Builtin.Str.strSliceIndices l u 1 x.length).length == x.length then x else ⟨((Builtin.Str.strSliceIndices l u 1 x.length).filterMap (x.cps[·]?)).toArray⟩
end
section
variable {W : Wd} {p : Bool} {C : Fc} {ρ : Rho}
theorem Ev.slice_tup {v e : Expr} {pos q : Pos} {xs : List AV} {a : Nat} (hv : Ev W p C ρ v (.tup xs)) (he : Ev W p C ρ e (.int a)) (ha : a ≤ xs.length) (hsz : xs.length ≤ sizeLine) :
    Ev W p C ρ (.Subscript v (.Slice (some e) none none q) pos) (.tup (xs.drop a)) := by
  intro s Q E I k
  refine Subscript_ (hv s _ _ I fun av s1 x1 v1 => wpAny_Slice (evalPart_some_step (he s1 _ _ (I.ext x1) fun vl s2 x2 p1 => evalPart_none_step (evalPart_none_step ?_))))
  obtain ⟨t, rfl⟩ := p1.int_is
  have I2 := (I.ext x1).ext x2
  have x : Ext p s2 { s2 with heap := s2.heap.push { cls := .type "slice", data := .fields #[.int a t, .none, .none] } } := Ext.push'
  have v2 := V.mono (fz.kp (x2.trans x).kp) _ _ v1
  obtain ⟨b, n, ws, rfl, e1, q1⟩ := v2.tup_is
  have ht : IsTup (s2.heap.push { cls := .type "slice", data := .fields #[.int a t, .none, .none] }) b ws.toArray := ⟨_, fz.get e1, rfl, _, rfl⟩
  refine tail_any ht.typeIs PyProof.Rows.slot_tuple_getitem.lookup ?_ (ops := [.ref s2.heap.objs.size, .ref b]) rfl
  by_cases h0 : a = 0
  · subst h0
    refine getItem_tuple_from0 ht (Heap.IsSliceOf.new ..) ?_
    exact k _ _ ((x1.trans x2).trans x) v2
  · refine getItem_tuple_from (a := a) ht (Heap.IsSliceOf.new ..) (by omega) (by simpa [q1.len] using ha) ?_ (by simpa [q1.len] using hsz)
    refine k _ _ (((x1.trans x2).trans x).trans Ext.push') (V.tup (n := 0) (vs := ws.drop a) (fz_push (I2.ext x).mu rfl) (Vs.mono (fz.kp (kpush _ _)) _ _ (q1.drop a)))
theorem Ev.slice_str {v : Expr} {lo hi : Option Expr} {pos q : Pos} {x : Str} {l h : Option Int} (hv : Ev W p C ρ v (.str x)) (h1 : Pt (W := W) (p := p) (C := C) (ρ := ρ) lo l) (h2 : Pt (W := W) (p := p) (C := C) (ρ := ρ) hi h) (hz : x.length ≤ sizeLine) (ht : ∀ o r, letTemporaryGo v o r = pure () := by intro _ _; rfl) :
    Ev W p C ρ (.Subscript v (.Slice lo hi none q) pos) (.str (slc x l h)) := by
  intro s Q E I k
  refine wpAny_Subscript_str_slice (hv s _ _ I fun o s1 x1 v1 => h1 s1 _ _ (I.ext x1) fun vl s2 x2 p1 => h2 s2 _ _ ((I.ext x1).ext x2) fun vu s3 x3 p2 => ?_) ht
  obtain ⟨t, rfl⟩ := v1.str_is
  have val : ∀ {v : Value} {k : Option Int}, IsPart v k → ∃ y : Option (Int × Tok), v = partValue y ∧ y.map (·.1) = k := fun q => by
    cases q with
    | none => exact ⟨none, rfl, rfl⟩
    | int i t => exact ⟨some (i, t), rfl, rfl⟩
  obtain ⟨yl, rfl, el⟩ := val p1
  obtain ⟨yu, rfl, eu⟩ := val p2
  refine ⟨x, t, yl, yu, rfl, rfl, rfl, ?_⟩
  have xx := ((x1.trans x2).trans x3).trans (Ext.push' (o := { cls := .type "slice", data := .fields #[partValue yl, partValue yu, .none] }))
  have ep : slicePicked x yl yu none = Builtin.Str.strSliceIndices l h 1 x.length := by unfold slicePicked; rw [el, eu]; rfl
  unfold sliceMade
  rw [ep]
  by_cases c : (Builtin.Str.strSliceIndices l h 1 x.length).length == x.length
  · have : ((1 : Int) == 1 && (Builtin.Str.strSliceIndices l h 1 x.length).length == x.length) = true := by rw [c]; rfl
    rw [show ((none : Option (Int × Tok)).map (·.1)).getD 1 = (1 : Int) from rfl, if_pos this]
    refine k _ _ xx ?_
    have : slc x l h = x := by unfold slc; rw [if_pos c]
    rw [this]; exact V.str
  · have : ¬ ((1 : Int) == 1 && (Builtin.Str.strSliceIndices l h 1 x.length).length == x.length) = true := by simpa using c
    rw [show ((none : Option (Int × Tok)).map (·.1)).getD 1 = (1 : Int) from rfl, if_neg this]
    have e2 : slc x l h = ⟨((Builtin.Str.strSliceIndices l h 1 x.length).filterMap (x.cps[·]?)).toArray⟩ := by unfold slc; rw [if_neg c]
    rw [← e2]
    refine ⟨?_, k _ _ (xx.trans Ext.tok) V.str⟩
    rw [e2]
    have h1 := List.length_filterMap_le (x.cps[·]?) (Builtin.Str.strSliceIndices l h 1 x.length)
    have h2 := indices_len_le l h x.length
    show (List.toArray _).size ≤ sizeLine
    rw [List.size_toArray]; omega
def chars (x : Str) : List Str := x.cps.toList.map fun c => ⟨#[c]⟩
theorem Src.str {e : Expr} {x : Str} (h : Ev W p C ρ e (.str x)) : Src W p C ρ e ((chars x).map .str) := by
  intro s Q E I k
  refine h s _ _ I fun v s1 x1 v1 => ?_
  obtain ⟨t, rfl⟩ := v1.str_is
  have go : ∀ (cls : String) (hW : ∀ I, Walks W.prog W.w C.A I [I] [I] x.cps.size (SignAt x) (fun i h => h.IsStrIter I cls x t i)),
      Q (.ref s1.heap.objs.size) { s1 with heap := s1.heap.push { cls := .type cls, data := .fields #[.str x t, .int 0 0] } } := fun cls hW => by
    refine k _ _ (x1.trans Ext.push') ⟨⟨s1.heap.objs.size, [s1.heap.objs.size], SignAt x, fun i h => h.IsStrIter s1.heap.objs.size cls x t i, rfl, x1.fresh (get_size _), ?_, ⟨_, Heap.get?_push_size _ rfl, rfl, rfl⟩, ?_, fun b hb => ?_, fun b hb => ?_, fun i v hi e => ?_⟩⟩
    · rw [show ((chars x).map AV.str).length = x.cps.size by simp [chars]]
      exact hW _
    · rintro i h ⟨o, e, _⟩; rw [e]; rfl
    · simp at hb; exact .inl hb
    · rcases List.mem_cons.mp hb with rfl | hb
      · show _ < (Heap.push _ _).objs.size
        rw [Heap.size_push]; exact Nat.lt_succ_self _
      · cases hb
    · obtain ⟨c, u, e1, rfl⟩ := e
      refine ⟨.str ⟨#[c]⟩, ?_, V.str⟩
      have hi' : i < x.cps.size := by simpa [chars] using hi
      simp [chars, e1]
  cases ha : x.cps.all (· < 128)
  · exact wpAny_pyIter_wide ha (go _ fun I' => Walks.strWide I.wf.rm.hd I' x t)
  · exact wpAny_pyIter_ascii ha (go _ fun I' => Walks.strAscii I.wf.rm.hd I' x t)
def EvT (e : Expr) (R : AV) : Prop := ∀ (s : Shared) (Q : Value → Shared → Prop) (E : Value → Shared → Prop), 0 < s.toks → Inv W C ρ s → (∀ v s', Ext p s s' → V (fz s'.heap C.mu) R v → Q v s') → wpAny W.M C.A (eval e C.env) Q E s
def EvP (e : Expr) (R : AV) : Prop := ∀ (s : Shared) (Q : Value → Shared → Prop) (E : Value → Shared → Prop), Inv W C ρ s → (∀ v s', 0 < s'.toks → Ext p s s' → V (fz s'.heap C.mu) R v → Q v s') → wpAny W.M C.A (eval e C.env) Q E s
theorem EvT.of {e : Expr} {R : AV} (h : Ev W p C ρ e R) : EvT (W := W) (p := p) (C := C) (ρ := ρ) e R := fun s Q E _ I k => h s Q E I k
theorem EvP.cstr {i k pos} : EvP (W := W) (p := p) (C := C) (ρ := ρ) (.Constant (.str i) k pos) (.str i) := fun _ _ _ _ k => Constant_str (k _ _ (Nat.succ_pos _) Ext.tok V.str)
theorem EvP.binl {l r : Expr} {op : Operator} {pos : Pos} {A B R : AV} (hl : EvP (W := W) (p := p) (C := C) (ρ := ρ) l A) (hr : EvT (W := W) (p := p) (C := C) (ρ := ρ) r B) (hb : Bin W.prog W.w op A B R) : EvP (W := W) (p := p) (C := C) (ρ := ρ) (.BinOp l op r pos) R := by
  intro s Q E I k
  refine wpAny_BinOp (hl s _ _ I fun a s1 t1 x1 v1 => wpAny_with_toks (n := 1) t1 (hr s1 _ _ t1 (I.ext x1) fun b s2 x2 v2 t2 => wpAny_with_toks (n := 1) t2 ?_))
  exact hb C.A C.mu s2 a b (I.wf.rm.le (by omega)) (((I.ext x1).ext x2).mu) (V.mono (fz.kp x2.kp) _ _ v1) v2 _ _ fun v s3 x3 v3 t3 => k v s3 t3 ((x1.trans x2).trans x3.of_true) v3
theorem EvP.binr {l r : Expr} {op : Operator} {pos : Pos} {A B R : AV} (hl : Ev W p C ρ l A) (hr : EvP (W := W) (p := p) (C := C) (ρ := ρ) r B) (hb : Bin W.prog W.w op A B R) : EvP (W := W) (p := p) (C := C) (ρ := ρ) (.BinOp l op r pos) R := by
  intro s Q E I k
  refine wpAny_BinOp (hl s _ _ I fun a s1 x1 v1 => hr s1 _ _ (I.ext x1) fun b s2 t2 x2 v2 => wpAny_with_toks (n := 1) t2 ?_)
  exact hb C.A C.mu s2 a b (I.wf.rm.le (by omega)) (((I.ext x1).ext x2).mu) (V.mono (fz.kp x2.kp) _ _ v1) v2 _ _ fun v s3 x3 v3 t3 => k v s3 t3 ((x1.trans x2).trans x3.of_true) v3
theorem EvP.ev {e : Expr} {R : AV} (h : EvP (W := W) (p := p) (C := C) (ρ := ρ) e R) : Ev W p C ρ e R := fun s Q E I k => h s Q E I fun v s' _ x v1 => k v s' x v1
set_option maxRecDepth 100000 in
theorem EvT.replace {o : Expr} {x y z : Str} {apos p1 p2 pos : Pos} (ho : EvT (W := W) (p := p) (C := C) (ρ := ρ) o (.str x)) (hyz : (y == z) = false) (hb : x.length + (x.length + 1) * z.length ≤ 16777216) {pl : Sem Bool} {k1 k2}
    (hE : eval (.Call (.Attribute o "replace" apos) [.Constant (.str y) k1 p1, .Constant (.str z) k2 p2] [] pos) C.env = (do
      let ov ← eval o C.env
      standAt apos.atName
      let (f, first) ← holding [ov] (getMethod ov "replace" pl)
      callWith pos f first (backTo pos (starEach [.Constant (.str y) k1 p1, .Constant (.str z) k2 p2] C.env)) []) := by rfl) :
    EvT (W := W) (p := p) (C := C) (ρ := ρ) (.Call (.Attribute o "replace" apos) [.Constant (.str y) k1 p1, .Constant (.str z) k2 p2] [] pos) (.str (Txt.replace x y z)) := by
  intro s Q E t0 I k
  refine MethodCall_ (pl := pl) (wpAny_with_toks (n := 1) t0 (ho s _ _ t0 I fun ov s1 x1 v1 t1 => ?_)) hE
  obtain ⟨t, rfl⟩ := v1.str_is
  refine PySem.GM.replace ?_
  refine callWith_method1 ?_ rfl rfl
  refine args_cons (Constant_str (args_cons (Constant_str (args_nil ?_)) rfl)) rfl
  refine PySem.SC.replace (Nat.ne_of_gt t1) (Nat.succ_ne_zero _) (Nat.ne_of_lt (Nat.lt_succ_self _)) hyz hb fun t' kk => ?_
  exact k _ _ (x1.trans Ext.tok) V.str
end
end SC
namespace SC
open PySem PySem.Spec PySem.Calls PyProof.Rows PySem.W
def itemAt (n : Nat) : DefItem := match PySem.Challenge.pw_sc0070_01.main.body[n]? with
  | some (.FunctionDef name a body _ _ _ sc _ _ pos) => ⟨name, a, body, sc, pos⟩
  | _ => ⟨"", ⟨[], [], none, [], [], none, []⟩, [], ⟨.function, [], false, false, []⟩, ⟨0, 0, 0, 0⟩⟩
abbrev dIter : DefItem := itemAt 3
abbrev dStrip : DefItem := itemAt 4
abbrev dPar : DefItem := itemAt 5
abbrev dPre : DefItem := itemAt 6
abbrev dQuote : DefItem := itemAt 11
abbrev dFix : DefItem := itemAt 12
abbrev dMail : DefItem := itemAt 16
abbrev dCol : DefItem := itemAt 17
abbrev dFields : DefItem := itemAt 18
abbrev dNets : DefItem := itemAt 19
abbrev dTold : DefItem := itemAt 20
abbrev dLaw : DefItem := itemAt 21
abbrev bns : List Str := ["range", "len", "sum", "min", "max", "sorted", "tuple", "enumerate"]
structure OkW (W : Wd) : Prop where
  defs : ∀ n ∈ [3, 4, 5, 6, 11, 12, 16, 17, 18, 19, 20, 21], itemAt n ∈ W.defs
  free : ∀ x ∈ bns, x ∉ W.names
end SC
namespace SC
open PySem PySem.Spec PySem.Calls PyProof.Rows PySem.W Builtin Builtin.Str
def Sub (ρ2 ρ1 : Rho) : Prop := ∀ y A, ρ2.lookup y = some A → ρ1.lookup y = some A
theorem Sub.nil {ρ1 : Rho} : Sub [] ρ1 := fun _ _ h => by cases h
theorem Sub.cons {ρ1 ρ2 : Rho} {x : Str} {A : AV} (h : ρ1.lookup x = some A) (k : Sub ρ2 ρ1) : Sub ((x, A) :: ρ2) ρ1 := fun y B e => by
  rw [List.lookup_cons] at e
  by_cases q : y = x
  · subst q; simp at e; subst e; exact h
  · rw [beq_eq_false_iff_ne.mpr q] at e; exact k y B e
theorem Sub.refl {ρ : Rho} : Sub ρ ρ := fun _ _ h => h
theorem mulOk1 {x : Str} {n : Int} (hn : n ≤ 1000000) (hm : -1000000 ≤ n) (hx : x.length ≤ 4) : MulOk x n := by
  refine ⟨?_, fun h1 h2 => ?_, fun h1 h2 => ?_⟩
  · rw [Bool.or_eq_false_iff]; exact ⟨decide_eq_false (by omega), decide_eq_false (by omega)⟩
  · have h3 : (9223372036854 : Int) ≤ (2 ^ 63 - 1) / n := by
      rw [Int.le_ediv_iff_mul_le (by omega)]; omega
    omega
  · unfold tooLong sizeLine
    refine decide_eq_false ?_
    have e : x.length * n.toNat ≤ 4 * 1000000 := Nat.mul_le_mul hx (by omega)
    omega
theorem Lp.fold {W : Wd} {p : Bool} {C : Fc} {tgt : Str} {body : List Stmt} {α β : Type} (f : α → AV) (g : β → Rho) (step : β → α → β) (ok : β → List α → Prop)
    (h : ∀ b x r, ok b (x :: r) → (∀ I, Sto W (C.adm I) (g b) tgt (f x)) ∧ (∃ ρ1, (∀ I, Exs W p (C.adm I) (upd (g b) tgt (f x)) body .next ρ1) ∧ Sub (g (step b x)) ρ1) ∧ ok (step b x) r) :
    ∀ (xs : List α) (b : β), ok b xs → Lp W p C tgt body (xs.map f) (g b) .next (g (xs.foldl step b))
  | [], _, _ => .done
  | x :: xs, b, hb => by
    obtain ⟨h1, ⟨ρ1, h2, h3⟩, h4⟩ := h b x xs hb
    exact .step h1 h2 h3 (Lp.fold f g step ok h xs _ h4)
theorem replace_len (x y z : Str) : (Txt.replace x y z).length ≤ x.length + (x.length + 1) * z.length := by
  unfold Txt.replace
  split
  · exact Nat.le_add_right _ _
  · have h1 := StrLaws.occ_length_le x y 0 x.length (x.length + 1)
    have hy := congrArg Str.length (StrLaws.glued_between_self x y (x.length + 1))
    have h2 := Nat.mul_le_mul_right z.length h1
    rw [size_glued, length_partsBetween, Nat.add_sub_cancel] at hy ⊢
    omega
theorem fmod_range (x : Int) (b : Int) (hb : 0 < b) : 0 ≤ x.fmod b ∧ x.fmod b < b := ⟨Int.fmod_nonneg_of_pos x hb, Int.fmod_lt_of_pos x hb⟩
end SC
namespace SC
open PySem PySem.Spec PySem.Calls PyProof.Rows PySem.W Builtin Builtin.Str
theorem pys_ints : ∀ ns : List Int, PyData.canLayAll0 (AV.pys (ns.map .int)) = true ∧ PyData.depthAll (AV.pys (ns.map .int)) = 0
  | [] => by simp [AV.pys, PyData.canLayAll0, PyData.depthAll]
  | n :: ns => by
    obtain ⟨h1, h2⟩ := pys_ints ns
    simp [AV.pys, AV.py, PyData.canLayAll0, PyData.depthAll, PyData.canLay0, PyData.depth, h1, h2]
theorem shaped_ints (ns : List Int) : SeqAt.shaped (AV.list (ns.map .int)).py = true := by
  obtain ⟨h1, h2⟩ := pys_ints ns
  simp [SeqAt.shaped, AV.py, PyData.canLay0, PyData.depth, h1, h2]
theorem shaped_tints (ns : List Int) : SeqAt.shaped (AV.tup (ns.map .int)).py = true := by
  obtain ⟨h1, h2⟩ := pys_ints ns
  simp [SeqAt.shaped, AV.py, PyData.canLay0, PyData.depth, h1, h2]
theorem eqv_intsA : ∀ ns ms : List Int, PyData.eqvAll (AV.pys (ns.map .int)) (AV.pys (ms.map .int)) = (ns == ms)
  | [], [] => by simp [AV.pys, PyData.eqvAll]
  | [], _ :: _ => by simp [AV.pys, PyData.eqvAll]
  | _ :: _, [] => by simp [AV.pys, PyData.eqvAll]
  | n :: ns, m :: ms => by
    have := eqv_intsA ns ms
    simp [AV.pys, AV.py, PyData.eqvAll, PyData.eqv, this]
theorem eqv_ints (ns ms : List Int) : PyData.eqv (AV.list (ns.map .int)).py (AV.list (ms.map .int)).py = (ns == ms) := by
  rw [← eqv_intsA]; simp [AV.py, PyData.eqv]
theorem pys_strs : ∀ ns : List Str, (∀ x ∈ ns, PyData.strOk x = true) → PyData.canLayAll0 (AV.pys (ns.map .str)) = true ∧ PyData.depthAll (AV.pys (ns.map .str)) = 0
  | [], _ => by simp [AV.pys, PyData.canLayAll0, PyData.depthAll]
  | n :: ns, h => by
    obtain ⟨h1, h2⟩ := pys_strs ns fun x hx => h x (.tail _ hx)
    have h0 := h n (.head _)
    simp [AV.pys, AV.py, PyData.canLayAll0, PyData.depthAll, PyData.canLay0, PyData.depth, h1, h2, h0]
theorem shaped_strs (ns : List Str) (h : ∀ x ∈ ns, PyData.strOk x = true) : SeqAt.shaped (AV.list (ns.map .str)).py = true := by
  obtain ⟨h1, h2⟩ := pys_strs ns h
  simp [SeqAt.shaped, AV.py, PyData.canLay0, PyData.depth, h1, h2]
theorem eqv_strsA : ∀ ns ms : List Str, PyData.eqvAll (AV.pys (ns.map .str)) (AV.pys (ms.map .str)) = (ns == ms)
  | [], [] => by simp [AV.pys, PyData.eqvAll]
  | [], _ :: _ => by simp [AV.pys, PyData.eqvAll]
  | _ :: _, [] => by simp [AV.pys, PyData.eqvAll]
  | n :: ns, m :: ms => by
    have := eqv_strsA ns ms
    simp [AV.pys, AV.py, PyData.eqvAll, PyData.eqv, this]
theorem eqv_strs (ns ms : List Str) : PyData.eqv (AV.list (ns.map .str)).py (AV.list (ms.map .str)).py = (ns == ms) := by
  rw [← eqv_strsA]; simp [AV.py, PyData.eqv]
theorem exMin : ∀ l : List Int, l ≠ [] → ∃ M ∈ l, ∀ a ∈ l, M ≤ a
  | [x], _ => ⟨x, .head _, fun a h => by simp at h; omega⟩
  | x :: y :: r, _ => by
    obtain ⟨M, h1, h2⟩ := exMin (y :: r) (by simp)
    by_cases q : x ≤ M
    · exact ⟨x, .head _, fun a h => by rcases List.mem_cons.mp h with rfl | h; exact Int.le_refl _; have := h2 a h; omega⟩
    · exact ⟨M, .tail _ h1, fun a h => by rcases List.mem_cons.mp h with rfl | h; omega; exact h2 a h⟩
theorem min0 {prog : Program} {w : World} (l : List Int) : ∃ M, Bui prog w "min" [.list ((l ++ [0]).map .int)] (.int M) ∧ (M == 0) = l.all (fun a => decide (0 ≤ a)) := by
  obtain ⟨M, h1, h2⟩ := exMin (l ++ [0]) (by simp)
  refine ⟨M, Bui.min _ M h1 h2, ?_⟩
  have h0 : M ≤ 0 := h2 0 (by simp)
  rw [Bool.eq_iff_iff]
  simp only [beq_iff_eq, List.all_eq_true, decide_eq_true_eq]
  constructor
  · intro e a ha
    have := h2 a (by simp [ha]); omega
  · intro h
    rcases List.mem_append.mp h1 with q | q
    · have := h M q; omega
    · simpa using q
end SC
namespace SC
open PySem PySem.Spec PySem.Calls PyProof.Rows PySem.W
set_option maxRecDepth 100000
variable {W : Wd}
def colL (ns : List Int) : List Int := (List.range ns.length).map fun k => (ns.drop k).sum
theorem col_con (O : OkW W) (ns : List Int) (hn : ns.length ≤ 1000) : Con W true dCol [.tup (ns.map .int)] (.list ((colL ns).map .int)) 4 := by
  refine Con.intro1 (n := 0) (x := "counts") (O.defs 17 (by decide)) ?_
  intro Ar L f cd pm doc ent mu rm hB hmu
  have e : (colL ns).map AV.int = (List.range ns.length).map fun k => AV.int (ns.drop k).sum := by simp [colL]
  rw [e]
  refine Run.of (Exs.stop (Ex.ret (Ev.comp [("counts", .tup (ns.map .int))] (Src.range (n := ns.length) (x := "range") (Ev.bcall (x := "len") (id := "len") (Evs.cons (Ev.cel (x := "counts") rfl rfl) Evs.nil) (by simpa using Bui.len_tup (ns.map AV.int) (by simp; omega)) (by decide +kernel) rfl (O.free _ (by decide))) (by omega) (by decide +kernel) rfl (O.free _ (by decide))) ?_ ?_ rfl ?_)) (by simp)) ?_
  · intro Lc D I
    refine Cm.map fun k hk => ⟨Sto.loc rfl, ?_⟩
    refine Ev.bcall (x := "sum") (id := "sum") (Evs.cons (Ev.slice_tup (Ev.cel (x := "counts") rfl rfl) (Ev.loc (x := "k") rfl rfl) ?_ ?_) Evs.nil) ?_ (by decide +kernel) rfl (O.free _ (by decide))
    · simp at hk ⊢; omega
    · simp; unfold sizeLine; omega
    · rw [← List.map_drop]; exact Bui.sum_tup _
  · intro Lc D I
    exact Cap.cons rfl rfl rfl rfl Cap.nil
  · simp; unfold sizeLine; omega
  · exact fun a h => .tail _ (List.mem_append_right _ h)
end SC
namespace SC
open PySem PySem.Spec PySem.Calls PyProof.Rows PySem.W
set_option maxRecDepth 100000
variable {W : Wd}
def endS (x : Int) : Str := ([("\r\n" : Str), (if 0 < x.fmod 5 then "\n" else "\r\n"), "\r"][((x.fdiv 5).fmod 3).toNat]?).getD ""
def mailStep (m : Str) (x : Int) : Str := (m ++ Txt.mul "." (x.fmod 5)) ++ endS x
def mailS (ns : List Int) : Str := ns.foldl mailStep ""
theorem endS_len (x : Int) : (endS x).length ≤ 2 := by
  unfold endS
  obtain ⟨h0, h1⟩ := fmod_range (x.fdiv 5) 3 (by omega)
  generalize (x.fdiv 5).fmod 3 = z at *
  have : z = 0 ∨ z = 1 ∨ z = 2 := by omega
  by_cases h : 0 < x.fmod 5 <;> simp only [h, if_true, if_false] <;> rcases this with rfl | rfl | rfl <;> decide
theorem mail_con (O : OkW W) (ns : List Int) (hn : ns.length ≤ 1000) : Con W true dMail [.list (ns.map .int)] (.str (mailS ns)) 4 := by
  refine Con.intro1 (n := 0) (x := "numbers") (O.defs 16 (by decide)) ?_
  intro Ar L f cd pm doc ent mu rm hB hmu
  refine Run.cons (Ex.assign Ev.cstr (Sto.loc rfl)) ?_
  refine Run.cons (Ex.for (Src.list (Ev.loc (x := "numbers") rfl rfl)) (Lp.fold AV.int (fun m : Str => [("mail", .str m)]) mailStep (fun m xs => m.length + 6 * xs.length ≤ 6000) ?_ ns "" ?_) (Sub.cons rfl Sub.nil)) ?_
  · intro m x r hm
    have e1 := len_mul_leN (x := ".") (n := x.fmod 5) (L := 1) (N := 4) (by decide) (by have := (fmod_range x 5 (by omega)).2; omega)
    have e2 := endS_len x
    obtain ⟨h0, h1⟩ := fmod_range (x.fdiv 5) 3 (by omega)
    obtain ⟨h2, h3⟩ := fmod_range x 5 (by omega)
    simp only [List.length_cons] at hm
    refine ⟨fun I => Sto.loc rfl, ⟨upd (upd (upd [("mail", .str m)] "number" (.int x)) "dots" (.int (x.fmod 5))) "mail" (.str (mailStep m x)), fun I => ?_, Sub.cons rfl Sub.nil⟩, ?_⟩
    · refine Exs.cons (Ex.assign (Ev.bin (Ev.loc rfl rfl) Ev.cint (Bin.mod x 5 (by decide))) (Sto.loc rfl)) (Exs.cons (Ex.assign ?_ (Sto.loc rfl)) Exs.nil)
      refine Ev.bin (Ev.bin (Ev.loc rfl rfl) (Ev.bin Ev.cstr (Ev.loc rfl rfl) (Bin.str_mul "." (x.fmod 5) (mulOk1 (by omega) (by omega) (by decide)))) (Bin.str_add _ _ (by unfold sizeLine; omega))) (Ev.sub1 (A := .list [.str "\r\n", .str (if 0 < x.fmod 5 then "\n" else "\r\n"), .str "\r"]) (B := .int ((x.fdiv 5).fmod 3)) (Ev.listd (Evs.cons Ev.cstr (Evs.cons (Ev.ifexp (Tr.cmp (Ev.loc rfl rfl) Ev.cint (Cmp.gt (x.fmod 5) 0)) (fun h => ?_) (fun h => ?_)) (Evs.cons Ev.cstr Evs.nil))) (by unfold sizeLine; simp)) (Ev.bin (Ev.bin (Ev.loc rfl rfl) Ev.cint (Bin.floordiv x 5 (by decide) (by decide))) Ev.cint (Bin.mod _ 3 (by decide))) (Sub1.list _ _ (.str (endS x)) h0 (by omega) ?_)) (Bin.str_add _ _ (by rw [Str.length_append]; unfold sizeLine; omega))
      · rw [if_pos (by simpa using h)]; exact Ev.cstr
      · rw [if_neg (by simpa using h)]; exact Ev.cstr
      · unfold endS
        generalize (x.fdiv 5).fmod 3 = z at *
        have : z = 0 ∨ z = 1 ∨ z = 2 := by omega
        rcases this with rfl | rfl | rfl <;> rfl
    · unfold mailStep; rw [Str.length_append, Str.length_append]; omega
  · show 0 + _ ≤ _; omega
  refine Run.of (Exs.stop (Ex.ret (Ev.loc rfl rfl)) (by simp)) ?_
  exact fun a h => .tail _ (List.mem_append_right _ h)
end SC
namespace SC
open PySem PySem.Spec PySem.Calls PyProof.Rows PySem.W
set_option maxRecDepth 100000
variable {W : Wd}
def wordsL : List Str := ["", "\\(", "\")\"", "\\\\", "\"(\\\"\"", "\\\"\\)"]
def wordS (n : Int) : Str := (wordsL[((n.fdiv 15).fmod 6).toNat]?).getD ""
def fieldS (n c : Int) (row : Str) : Str := (wordS n ++ Txt.mul "(" c) ++ Txt.replace row "." ")"
def fieldStep (ns cs : List Int) (rows : List Str) (b : List Str) (k : Nat) : List Str :=
  if ((k : Int) + 1 < ((rows.getD k "").length : Int)) then b ++ [fieldS (ns.getD k 0) (cs.getD (k + 1) 0) (rows.getD k "")] else b
def fieldsL (ns cs : List Int) (rows : List Str) : List Str := (List.range 4).foldl (fieldStep ns cs rows) []
theorem wordS_len (n : Int) : (wordS n).length ≤ 6 := by
  unfold wordS
  obtain ⟨h0, h1⟩ := fmod_range (n.fdiv 15) 6 (by omega)
  generalize (n.fdiv 15).fmod 6 = z at *
  have : z = 0 ∨ z = 1 ∨ z = 2 ∨ z = 3 ∨ z = 4 ∨ z = 5 := by omega
  rcases this with rfl | rfl | rfl | rfl | rfl | rfl <;> decide
theorem getD_some {α : Type} {l : List α} {k : Nat} {d : α} (h : k < l.length) : l[k]? = some (l.getD k d) := by simp [List.getD_eq_getElem?_getD, h]
theorem map_at {α : Type} {l : List α} {k : Nat} {d : α} {f : α → AV} (h : k < l.length) : (l.map f)[((k : Nat) : Int).toNat]? = some (f (l.getD k d)) := by
  rw [Int.toNat_natCast, List.getElem?_map, getD_some h]; rfl
theorem fields_con (O : OkW W) (ns cs : List Int) (rows : List Str) (hn : 4 ≤ ns.length) (hr : 4 ≤ rows.length) (hc : ∀ k < 4, k + 1 < (rows.getD k "").length → k + 1 < cs.length)
    (hrl : ∀ k < 4, (rows.getD k "").length ≤ 1000) (hcl : ∀ k, 0 ≤ cs.getD k 0 ∧ cs.getD k 0 ≤ 1000) :
    Con W true dFields [.list (ns.map .int), .list (cs.map .int), .list (rows.map .str)] (.list ((fieldsL ns cs rows).map .str)) 4 := by
  refine Con.intro (n := 0) (names := ["numbers", "columns", "rows"]) (O.defs 18 (by decide)) rfl rfl rfl rfl rfl (by decide) ?_ (fun L => by rw [cells_names L 0 _ [] [] rfl]; decide +kernel) ?_ ?_
  · intro pm c doc vs hv
    match vs, hv with
    | [u, v, w], _ => rfl
  · intro x hx
    have : x = "numbers" ∨ x = "columns" ∨ x = "rows" := by simpa using hx
    rcases this with rfl | rfl | rfl <;> exact .inl rfl
  intro Ar L f cd pm doc ent mu rm hB hmu
  refine Run.cons (Ex.assign (Ev.listd (Rs := wordsL.map .str) (Evs.cons Ev.cstr (Evs.cons Ev.cstr (Evs.cons Ev.cstr (Evs.cons Ev.cstr (Evs.cons Ev.cstr (Evs.cons Ev.cstr Evs.nil)))))) (by unfold sizeLine; decide)) (Sto.loc rfl)) ?_
  refine Run.own rfl rfl fun a ha => ?_
  refine Run.cons (Ex.for (Src.range (n := 4) (x := "range") Ev.cint (by decide) (by decide +kernel) rfl (O.free _ (by decide))) (Lp.fold (fun i : Nat => AV.int (i : Int)) (fun b : List Str => [("fields", .own (b.map .str)), ("words", .list (wordsL.map .str)), ("numbers", .list (ns.map .int)), ("columns", .list (cs.map .int)), ("rows", .list (rows.map .str))]) (fieldStep ns cs rows) (fun b xs => b.length + xs.length ≤ 4 ∧ ∀ x ∈ xs, x < 4) ?_ (List.range 4) [] ?_) (Sub.cons rfl (Sub.cons rfl (Sub.cons rfl (Sub.cons rfl (Sub.cons rfl Sub.nil)))))) ?_
  · rintro b k r ⟨hb, hk⟩
    have hk4 : k < 4 := hk k (.head _)
    simp only [List.length_cons] at hb
    have hrk := hrl k hk4
    obtain ⟨hc0, hc1⟩ := hcl (k + 1)
    refine ⟨fun I => Sto.loc rfl, ⟨_, fun I => ?_, Sub.refl⟩, ?_, fun x hx => hk x (.tail _ hx)⟩
    · refine Exs.cons (Ex.ifs (c := decide ((k : Int) + 1 < ((rows.getD k "").length : Int))) (Tr.cmp (Ev.bcall (x := "len") (id := "len") (Evs.cons (Ev.sub1 (Ev.loc (x := "rows") rfl rfl) (Ev.loc (x := "k") rfl rfl) (Sub1.list _ _ (.str (rows.getD k "")) (by omega) (by omega) (map_at (by omega)))) Evs.nil) (Bui.len_str _ (by omega)) (by decide +kernel) rfl (O.free _ (by decide))) (Ev.bin (Ev.loc rfl rfl) Ev.cint (Bin.add _ _)) (Cmp.gt _ _)) (fun h => ?_) (fun h => ?_)) Exs.nil
      · have h : (k : Int) + 1 < ((rows.getD k "").length : Int) := by simpa using h
        have hck := hc k hk4 (by omega)
        have e : fieldStep ns cs rows b k = b ++ [fieldS (ns.getD k 0) (cs.getD (k + 1) 0) (rows.getD k "")] := if_pos h
        rw [e]
        obtain ⟨w0, w1⟩ := fmod_range ((ns.getD k 0).fdiv 15) 6 (by omega)
        have wl := wordS_len (ns.getD k 0)
        have ml := len_mul_leN (x := "(") (n := cs.getD (k + 1) 0) (L := 1) (N := 1000) (by decide) (by omega)
        refine Exs.weak (Exs.cons (Ex.append (R := .str (fieldS (ns.getD k 0) (cs.getD (k + 1) 0) (rows.getD k ""))) rfl rfl rfl ?_ ?_) Exs.nil) ?_
        · refine EvP.ev (EvP.binl (EvP.binr (Ev.sub1 (Ev.loc (x := "words") rfl rfl) (Ev.bin (Ev.bin (Ev.sub1 (Ev.loc (x := "numbers") rfl rfl) (Ev.loc (x := "k") rfl rfl) (Sub1.list _ _ (.int (ns.getD k 0)) (by omega) (by omega) (map_at (by omega)))) Ev.cint (Bin.floordiv _ 15 (by decide) (by decide))) Ev.cint (Bin.mod _ 6 (by decide))) (Sub1.list _ _ (.str (wordS (ns.getD k 0))) w0 (by omega) ?_))
            (EvP.binl EvP.cstr (EvT.of (Ev.sub1 (Ev.loc (x := "columns") rfl rfl) (Ev.bin (Ev.loc (x := "k") rfl rfl) Ev.cint (Bin.add _ _)) (Sub1.list _ _ (.int (cs.getD (k + 1) 0)) (by omega) (by omega) ?_))) (Bin.str_mul "(" _ (mulOk1 (by omega) (by omega) (by decide)))) (Bin.str_add _ _ ?_))
            (EvT.replace (EvT.of (Ev.sub1 (Ev.loc (x := "rows") rfl rfl) (Ev.loc (x := "k") rfl rfl) (Sub1.list _ _ (.str (rows.getD k "")) (by omega) (by omega) (map_at (by omega))))) (by decide) ?_) (Bin.str_add _ _ ?_))
          · unfold wordS
            generalize ((ns.getD k 0).fdiv 15).fmod 6 = z at *
            have : z = 0 ∨ z = 1 ∨ z = 2 ∨ z = 3 ∨ z = 4 ∨ z = 5 := by omega
            rcases this with rfl | rfl | rfl | rfl | rfl | rfl <;> rfl
          · rw [show ((k : Int) + 1) = ((k + 1 : Nat) : Int) by push_cast; rfl]
            exact map_at hck
          · unfold sizeLine; omega
          · simp only [show (")" : Str).length = 1 from rfl]; omega
          · have := replace_len (rows.getD k "") "." ")"
            rw [show (")" : Str).length = 1 from rfl] at this
            rw [Str.length_append]; unfold sizeLine; omega
        · unfold sizeLine; rw [List.length_map]; omega
        · refine Sub.cons ?_ (Sub.cons rfl (Sub.cons rfl (Sub.cons rfl (Sub.cons rfl Sub.nil))))
          rw [List.map_append]; rfl
      · have h : ¬ (k : Int) + 1 < ((rows.getD k "").length : Int) := by simpa using h
        have e : fieldStep ns cs rows b k = b := if_neg h
        rw [e]
        exact Exs.weak Exs.nil (Sub.cons rfl (Sub.cons rfl (Sub.cons rfl (Sub.cons rfl (Sub.cons rfl Sub.nil)))))
    · unfold fieldStep
      by_cases h : (k : Int) + 1 < ((rows.getD k "").length : Int)
      · rw [if_pos h, List.length_append]; simp; omega
      · rw [if_neg h]; omega
  · exact ⟨by simp, fun x hx => List.mem_range.mp hx⟩
  refine Run.freeze rfl ha rfl rfl ?_
  refine Run.of (Exs.stop (Ex.ret (Ev.loc rfl rfl)) (by simp)) ?_
  exact fun a h => .tail _ (List.mem_append_right _ h)
end SC
namespace SC
open PySem PySem.Spec PySem.Calls PyProof.Rows PySem.W
set_option maxRecDepth 100000
variable {W : Wd}
def leftL (w : List Int) (c : Nat) : List Int := (List.range (w.length - 1)).map fun k : Nat => w.getD (k + 1) 0 - ((c : Int).fdiv (((2 ^ k : Nat) : Int))).fmod 2
def netsC (w l : List Int) : Bool := (w.sum - l.sum == 2 * w.getD 0 0) && l.all (fun a => decide (0 ≤ a))
def nets : Nat → List Int → Int
  | 0, _ => 1
  | n + 1, w => (List.range (2 ^ n)).foldl (fun ways c => if netsC w (leftL w c) then ways + nets n (leftL w c) else ways) 0
theorem map_at' {α : Type} {l : List α} {k : Nat} {i : Int} {d : α} {f : α → AV} (e : i = (k : Int)) (h : k < l.length) : (l.map f)[i.toNat]? = some (f (l.getD k d)) := by
  subst e
  rw [Int.toNat_natCast, List.getElem?_map, List.getD_eq_getElem?_getD, List.getElem?_eq_getElem h]; rfl
theorem leftL_len (w : List Int) (c : Nat) : (leftL w c).length = w.length - 1 := by simp [leftL]
theorem leftL_bd (w : List Int) (c : Nat) (B : Int) (h : ∀ a ∈ w, -B ≤ a ∧ a ≤ B) : ∀ a ∈ leftL w c, -(B + 1) ≤ a ∧ a ≤ B + 1 := by
  intro a ha
  obtain ⟨k, hk, rfl⟩ := List.mem_map.mp ha
  have hk := List.mem_range.mp hk
  obtain ⟨h0, h1⟩ := fmod_range ((c : Int).fdiv (((2 ^ k : Nat) : Int))) 2 (by omega)
  have hl : k + 1 < w.length := by omega
  have := h (w.getD (k + 1) 0) (by rw [List.getD_eq_getElem?_getD, List.getElem?_eq_getElem hl]; exact List.getElem_mem hl)
  omega
theorem pow_ok (n : Nat) (hn : n ≤ 8) : (Builtin.Int.intBits 2 : Int) * (n : Int) ≤ 2 ^ 27 := by
  have : (Builtin.Int.intBits 2 : Int) = 2 := by decide
  rw [this]; omega
theorem nets_con (O : OkW W) : ∀ (n : Nat) (w : List Int), w.length = n → n ≤ 8 → Con W true dNets [.list (w.map .int)] (.int (nets n w)) (n + 4) := by
  intro n
  induction n with
  | zero =>
    intro w hw _
    refine Con.intro1 (n := 0) (x := "wishes") (O.defs 19 (by decide)) ?_
    intro Ar L f cd pm doc ent mu rm hB hmu
    refine Run.stop (Ex.ifs (c := true) (Tr.cmp (Ev.cel (x := "wishes") rfl rfl) (Ev.listd Evs.nil (by decide)) (Cmp.deq (shaped_ints w) (shaped_ints []) ?_)) (fun _ => Exs.stop (Ex.ret Ev.cint) (by simp)) (fun h => by cases h)) ?_
    · rw [show AV.list [] = AV.list (([] : List Int).map AV.int) from rfl, eqv_ints]; simp [List.length_eq_zero_iff.mp hw]
    · exact fun a h => .tail _ (List.mem_append_right _ h)
  | succ n ih =>
    intro w hw hn
    refine Con.intro1 (n := n + 1) (x := "wishes") (O.defs 19 (by decide)) ?_
    intro Ar L f cd pm doc ent mu rm hB hmu
    refine Run.cons (Ex.ifs (c := false) (Tr.cmp (Ev.cel (x := "wishes") rfl rfl) (Ev.listd Evs.nil (by decide)) (Cmp.deq (shaped_ints w) (shaped_ints []) ?_)) (fun h => by cases h) (fun _ => Exs.nil)) ?_
    · rw [show AV.list [] = AV.list (([] : List Int).map AV.int) from rfl, eqv_ints]
      cases w with
      | nil => simp at hw
      | cons => rfl
    refine Run.cons (Ex.assign Ev.cint (Sto.loc rfl)) ?_
    refine Run.cons (Ex.for (Src.range (n := 2 ^ n) (x := "range") (Ev.bin (B := .int n) Ev.cint (Ev.bin (Ev.bcall (x := "len") (id := "len") (Evs.cons (Ev.cel (x := "wishes") rfl rfl) Evs.nil) (Bui.len_list _ ?_) (by decide +kernel) rfl (O.free _ (by decide))) Ev.cint ?_) ?_) ?_ (by decide +kernel) rfl (O.free _ (by decide)))
      (Lp.fold (fun i : Nat => AV.int (i : Int)) (fun b : Int => [("ways", .int b), ("wishes", .list (w.map .int))]) (fun ways c => if netsC w (leftL w c) then ways + nets n (leftL w c) else ways) (fun _ _ => True) ?_ (List.range (2 ^ n)) 0 trivial) (Sub.cons rfl (Sub.cons rfl Sub.nil))) ?_
    · rw [List.length_map]; omega
    · rw [show (n : Int) = ((w.map AV.int).length : Int) - 1 by rw [List.length_map]; omega]; exact Bin.sub _ _
    · have := Bin.pow (prog := W.prog) (w := W.w) 2 n (by omega) (pow_ok n (by omega))
      rw [Int.toNat_natCast] at this
      rw [show (((2 ^ n : Nat) : Int)) = (2 : Int) ^ n by push_cast; rfl]; exact this
    · exact Nat.lt_of_le_of_lt (Nat.pow_le_pow_right (by omega) (show n ≤ 8 by omega)) (by decide)
    · intro b c r _
      refine ⟨fun I => Sto.cel rfl rfl rfl, ⟨_, fun I => ?_, Sub.refl⟩, trivial⟩
      refine Exs.cons (Ex.assignComp (Rs := (leftL w c).map .int) [("wishes", .list (w.map .int)), ("chosen", .int c)] (Src.range (n := n) (x := "range") (Ev.bin (Ev.bcall (x := "len") (id := "len") (Evs.cons (Ev.cel (x := "wishes") rfl rfl) Evs.nil) (Bui.len_list _ ?_) (by decide +kernel) rfl (O.free _ (by decide))) Ev.cint ?_) ?_ (by decide +kernel) rfl (O.free _ (by decide))) ?_ ?_ rfl ?_ (fun L => Sto.loc rfl)) ?_
      · rw [List.length_map]; omega
      · rw [show (n : Int) = ((w.map AV.int).length : Int) - 1 by rw [List.length_map]; omega]; exact Bin.sub _ _
      · omega
      · intro Lc D J
        rw [show (leftL w c).map AV.int = (List.range n).map fun k : Nat => AV.int (w.getD (k + 1) 0 - ((c : Int).fdiv (((2 ^ k : Nat) : Int))).fmod 2) by simp [leftL, hw]]
        refine Cm.map fun k hk => ⟨Sto.loc rfl, ?_⟩
        have hk := List.mem_range.mp hk
        have pk : (2 : Nat) ^ k ≤ 2 ^ 8 := Nat.pow_le_pow_right (by omega) (by omega)
        have pk0 : 0 < (2 : Nat) ^ k := Nat.pow_pos (by omega)
        refine Ev.bin (Ev.sub1 (Ev.cel (x := "wishes") rfl rfl) (Ev.bin (Ev.loc (x := "k") rfl rfl) Ev.cint (Bin.add _ _)) (Sub1.list _ _ (.int (w.getD (k + 1) 0)) (by omega) (by omega) (map_at' (k := k + 1) (by push_cast; rfl) (by omega))))
          (Ev.bin (Ev.bin (Ev.cel (x := "chosen") rfl rfl) (Ev.bin (R := .int ((2 ^ k : Nat) : Int)) Ev.cint (Ev.loc (x := "k") rfl rfl) ?_) (Bin.floordiv _ _ (by omega) (by omega))) Ev.cint (Bin.mod _ _ (by decide))) (Bin.sub _ _)
        have := Bin.pow (prog := W.prog) (w := W.w) 2 k (by omega) (pow_ok k (by omega))
        rw [Int.toNat_natCast] at this
        rw [show (((2 ^ k : Nat) : Int)) = (2 : Int) ^ k by push_cast; rfl]; exact this
      · intro Lc D J
        exact Cap.cons rfl rfl rfl rfl (Cap.cons rfl rfl rfl rfl Cap.nil)
      · simp; unfold sizeLine; omega
      · obtain ⟨M, hM, eM⟩ := min0 (prog := W.prog) (w := W.w) (leftL w c)
        have ll := leftL_len w c
        refine Exs.cons (Ex.ifs (c := netsC w (leftL w c)) (Tr.and2 (Tr.cmp (Ev.bin (Ev.bcall (x := "sum") (id := "sum") (Evs.cons (Ev.cel (x := "wishes") rfl rfl) Evs.nil) (Bui.sum w) (by decide +kernel) rfl (O.free _ (by decide))) (Ev.bcall (x := "sum") (id := "sum") (Evs.cons (Ev.loc (x := "left") rfl rfl) Evs.nil) (Bui.sum (leftL w c)) (by decide +kernel) rfl (O.free _ (by decide))) (Bin.sub _ _))
          (Ev.bin Ev.cint (Ev.sub1 (Ev.cel (x := "wishes") rfl rfl) Ev.cint (Sub1.list _ _ (.int (w.getD 0 0)) (by omega) (by omega) (map_at' (k := 0) rfl (by omega)))) (Bin.mul 2 _ (IntMulOk.of_left (by decide)))) (Cmp.eq _ _))
          (fun _ => Tr.cmp (Ev.bcall (x := "min") (id := "min") (Evs.cons (Ev.bin (B := .list [.int 0]) (R := .list ((leftL w c ++ [0]).map AV.int)) (Ev.loc (x := "left") rfl rfl) (Ev.listd (Evs.cons Ev.cint Evs.nil) (by decide)) ?_) Evs.nil) hM (by decide +kernel) rfl (O.free _ (by decide))) Ev.cint (eM ▸ Cmp.eq M 0))) (fun h => ?_) (fun h => ?_)) Exs.nil
        · rw [List.map_append]
          exact Bin.list_add _ _ (by simp; unfold sizeLine; omega)
        · rw [h, if_pos rfl]
          refine Exs.weak (Exs.cons (Ex.assign (Ev.bin (Ev.loc (x := "ways") rfl rfl) (Ev.ucall (O.defs 19 (by decide)) rfl rfl (Evs.cons (Ev.loc (x := "left") rfl rfl) Evs.nil) (ih (leftL w c) (by omega) (by omega)) (rm.deeper _ |>.le (by omega)) rfl) (Bin.add _ _)) (Sto.loc rfl)) Exs.nil) (Sub.cons rfl (Sub.cons rfl Sub.nil))
        · rw [h, if_neg (by decide)]
          exact Exs.weak Exs.nil (Sub.cons rfl (Sub.cons rfl Sub.nil))
    refine Run.of (Exs.stop (Ex.ret (Ev.loc rfl rfl)) (by simp)) ?_
    exact fun a h => .tail _ (List.mem_append_right _ h)
end SC
namespace SC
open PySem PySem.Spec PySem.Calls PyProof.Rows PySem.W
set_option maxRecDepth 100000
variable {W : Wd}
def toldP (rows : List Str) (i j : Nat) : Bool := (j != i) && decide (max i j < (rows.getD (min i j) "").length)
def toldL (rows : List Str) : List Int := (List.range 5).map fun i => (((List.range 5).filter (toldP rows i)).length : Int)
theorem map_at2 {α : Type} {l : List α} {k : Nat} {i : Int} {d : α} {f : α → AV} (e : i = (k : Int)) (h : k < l.length) : (l.map f)[i.toNat]? = some (f (l.getD k d)) := by
  subst e
  rw [Int.toNat_natCast, List.getElem?_map, List.getD_eq_getElem?_getD, List.getElem?_eq_getElem h]; rfl
theorem told_con (O : OkW W) (rows : List Str) (hr : 5 ≤ rows.length) (hz : ∀ x ∈ rows, x.length ≤ 1000) : Con W true dTold [.list (rows.map .str)] (.list ((toldL rows).map .int)) 4 := by
  refine Con.intro1 (n := 0) (x := "rows") (O.defs 20 (by decide)) ?_
  intro Ar L f cd pm doc ent mu rm hB hmu
  have e : (toldL rows).map AV.int = (List.range 5).map fun i => AV.int (((List.range 5).filter (toldP rows i)).length : Int) := by simp [toldL]
  rw [e]
  refine Run.of (Exs.stop (Ex.ret (Ev.comp [("rows", .list (rows.map .str))] (Src.range (n := 5) (x := "range") Ev.cint (by decide) (by decide +kernel) rfl (O.free _ (by decide))) ?_ ?_ rfl ?_)) (by simp)) ?_
  · intro Lc D I
    refine Cm.map fun i hi => ⟨Sto.cel rfl rfl rfl, ?_⟩
    have hi := List.mem_range.mp hi
    refine Ev.bcall (x := "len") (id := "len") (Evs.cons (Ev.comp (Rs := ((List.range 5).filter (toldP rows i)).map fun j : Nat => AV.int (j : Int)) [("rows", .list (rows.map .str)), ("i", .int i)] (Src.range (n := 5) (x := "range") Ev.cint (by decide) (by decide +kernel) rfl (O.free _ (by decide))) ?_ ?_ rfl ?_) Evs.nil) ?_ (by decide +kernel) rfl (O.free _ (by decide))
    · intro Lc' D' I'
      refine Cm.filter fun j hj => ⟨Sto.loc rfl, ?_, fun _ => Ev.loc rfl rfl⟩
      have hj := List.mem_range.mp hj
      have hm : (rows.getD (min i j) "").length ≤ 1000 := by
        rw [List.getD_eq_getElem?_getD, List.getElem?_eq_getElem (show min i j < rows.length by omega)]; exact hz _ (List.getElem_mem _)
      have ep : toldP rows i j = (((j : Int) != (i : Int)) && decide ((if (j : Int) > (i : Int) then (j : Int) else (i : Int)) < ((rows.getD (min i j) "").length : Int))) := by
        unfold toldP
        congr 1
        · rw [Bool.eq_iff_iff]; simp; omega
        · rw [Bool.eq_iff_iff]; simp only [decide_eq_true_eq]; split <;> omega
      rw [ep]
      refine Tr.and2 (Tr.cmp (Ev.loc (x := "j") rfl rfl) (Ev.cel (x := "i") rfl rfl) (Cmp.ne (j : Int) (i : Int))) (fun _ => Tr.cmp (Ev.bcall (x := "max") (id := "max") (Evs.cons (Ev.cel (x := "i") rfl rfl) (Evs.cons (Ev.loc (x := "j") rfl rfl) Evs.nil)) (Bui.max2 i j) (by decide +kernel) rfl (O.free _ (by decide))) (Ev.bcall (x := "len") (id := "len") (Evs.cons (Ev.sub1 (Ev.cel (x := "rows") rfl rfl) (Ev.bcall (x := "min") (id := "min") (Evs.cons (Ev.cel (x := "i") rfl rfl) (Evs.cons (Ev.loc (x := "j") rfl rfl) Evs.nil)) (Bui.min2 i j) (by decide +kernel) rfl (O.free _ (by decide))) (Sub1.list _ _ (.str (rows.getD (min i j) "")) ?_ ?_ (map_at2 (k := min i j) ?_ (by omega)))) Evs.nil) (Bui.len_str _ (by omega)) (by decide +kernel) rfl (O.free _ (by decide))) (Cmp.lt _ _))
      · split <;> omega
      · split <;> omega
      · split <;> omega
    · intro Lc' D' I'
      exact Cap.cons rfl rfl rfl rfl (Cap.cons rfl rfl rfl rfl Cap.nil)
    · simp; unfold sizeLine; omega
    · have := Bui.len_list (prog := W.prog) (w := W.w) (((List.range 5).filter (toldP rows i)).map fun j : Nat => AV.int (j : Int)) (by
        rw [List.length_map]; have := List.length_filter_le (toldP rows i) (List.range 5); simp at this; omega)
      rw [List.length_map] at this; exact this
  · intro Lc D I
    exact Cap.cons rfl rfl rfl rfl Cap.nil
  · simp; unfold sizeLine; omega
  · exact fun a h => .tail _ (List.mem_append_right _ h)
end SC
namespace SC
open PySem PySem.Spec PySem.Calls PyProof.Rows PySem.W
section
variable {M : Model} {A : Around} {R : GenEnd} {Y : Protocol} {n : Nat} {s₀ : Shared} {c : Code} {fs : List Frame} {s : Shared} {env : Env}
  {K : Flow → Sem Fin} {H : Value → Sem Fin} {gd : Bool → Bool} {lv : List Value → List Value}
theorem sg_If {t : Expr} {a b : List Stmt} {pos : Pos}
    (h : wpAny M (A.over c fs) (isTrue t env (eval t env)) (fun r s' => if r = true then Seg M A R Y n s₀ c ((execs a env).wrap K H gd lv) fs s' else Seg M A R Y n s₀ c ((execs b env).wrap K H gd lv) fs s') (fun x s' => Seg M A R Y n s₀ c (H x) fs s') s) :
    Seg M A R Y n s₀ c ((exec (.If t a b pos) env).wrap K H gd lv) fs s := by
  rw [exec_If]
  refine seg_bind_wrap (wpAny_standAt (seg_bind_wrap (wpAny_mono h (fun r s' h' => ?_) fun _ _ x => x)))
  cases r with
  | true => exact h'
  | false => exact h'
theorem sg_stmt {st : Stmt} {rest : List Stmt}
    (h : wpAny M (A.over c fs) (exec st env) (fun f s' => f = .next ∧ Seg M A R Y n s₀ c ((execs rest env).wrap K H gd lv) fs s') (fun x s' => Seg M A R Y n s₀ c (H x) fs s') s) :
    Seg M A R Y n s₀ c ((execs (st :: rest) env).wrap K H gd lv) fs s := by
  refine seg_execs_cons (seg_wrap (wpAny_mono h (fun f s' h' => ?_) fun _ _ x => x))
  obtain ⟨rfl, h'⟩ := h'
  exact h'
def runK (env : Env) (K : Flow → Sem Fin) (H : Value → Sem Fin) (gd : Bool → Bool) (lv : List Value → List Value) (r : Result) : Sem Fin :=
  ((match r with | .ok f => (.pure f : Sem Flow) | .error e => .raise e).onRaise fun (x : Value) => do
        if (← field x 1) == Value.none then unsupported "frame.own-activation:exception-without-traceback"
        setFlight x env.frame).wrap K H gd lv
theorem sg_For {target iter : Expr} {body orelse : List Stmt} {pos : Pos}
    (h : wpAny M (A.over c fs) (eval iter env) (fun xv s1 => wpAny M (A.over c fs) (pyIter xv) (fun it s2 => ∀ p, Seg M A R Y n s₀ (.forLoop target it body orelse env) (M.den (.forLoop target it body orelse env)) (.ret (runK env K H gd lv) none (gd false) (lv []) c p [] :: fs) s2) (fun x s' => Seg M A R Y n s₀ c (H x) fs s') s1) (fun x s' => Seg M A R Y n s₀ c (H x) fs s') s)
    (hs : ∀ x, foldedSetIterable iter env x = pure x := by intro _; rfl) :
    Seg M A R Y n s₀ c ((exec (.For target iter body orelse pos) env).wrap K H gd lv) fs s := by
  rw [exec_For]
  refine seg_bind_wrap (wpAny_standAt (seg_bind_wrap (wpAny_mono h (fun xv s1 h1 => ?_) fun _ _ x => x)))
  refine seg_bind_wrap (wpAny_of_eq (hs xv) (seg_bind_wrap (wpAny_standAt (seg_bind_wrap (wpAny_holding (wpAny_mono h1 (fun it s2 h2 => ?_) fun _ _ x => x))))))
  exact seg_call h2
end
section
variable {prog : Program} {w : World} {A : Around} {R : GenEnd} {Y : Protocol} {n : Nat} {s₀ : Shared} {fs : List Frame} {s : Shared} {env : Env}
def forH (env : Env) (e : Value) : Sem Fin := (do noteFrame e env; theTreesLotGoes e : Sem Unit).bind fun _ => .raise e
def forK (target : Expr) (it : Value) (body orelse : List Stmt) (env : Env) (f : Flow) : Sem Fin := match f with
  | .next | .cont => .pure (.again (.forLoop target it body orelse env))
  | .brk => .pure (.done .next)
  | .ret v => .pure (.done (.ret v))
theorem sg_forLoop {target : Expr} {it : Value} {body orelse : List Stmt}
    (h : ∀ E, wpAny (model prog w) (A.over (.forLoop target it body orelse env) fs) (pyNext it) (fun r s₁ => match r with
      | none => Seg (model prog w) A R Y n s₀ (.block orelse env) ((model prog w).den (.block orelse env)) fs s₁
      | some v => wpAny (model prog w) (A.over (.forLoop target it body orelse env) fs) (letOwnedTupleGo target it v) (fun _ s₂ => wpAny (model prog w) (A.over (.forLoop target it body orelse env) fs) (assign target env v) (fun _ s₃ =>
          Seg (model prog w) A R Y n s₀ (.forLoop target it body orelse env) ((execs body env).wrap (forK target it body orelse env) (forH env) id id) fs s₃) E s₂) E s₁) E s)
    (hq : (Code.block orelse env).quiet = true := by rfl) :
    Seg (model prog w) A R Y n s₀ (.forLoop target it body orelse env) ((model prog w).den (.forLoop target it body orelse env)) fs s := by
  show Seg _ A R Y n s₀ _ ((forTurn target it body orelse env).onRaise (fun x => do noteFrame x env; theTreesLotGoes x)) fs s
  rw [Sem.onRaise_eq_wrap]
  unfold forTurn
  refine seg_bind_wrap (wpAny_standAt (seg_bind_wrap (wpAny_onRaise (wpAny_mono (h (fun x s' => Seg (model prog w) A R Y n s₀ (.forLoop target it body orelse env) (forH env x) fs s')) (fun r s₁ h₁ => ?_) fun x s' hx => wpAny_standAt hx))))
  cases r with
  | none => exact seg_again hq h₁
  | some v =>
    refine seg_bind_wrap (wpAny_mono h₁ (fun _ s₂ h₂ => seg_bind_wrap (wpAny_mono h₂ (fun _ s₃ h₃ => ?_) fun x s' hx => hx)) fun x s' hx => hx)
    rw [Sem.bind_eq_wrap', Sem.wrap_wrap]
    exact Eq.mpr (congrArg (fun t => Seg (model prog w) A R Y n s₀ (.forLoop target it body orelse env) t fs s₃) (Sem.wrap_congr (execs body env) id id (K' := forK target it body orelse env) (H' := forH env) (fun f => by cases f <;> rfl) (fun e => rfl))) h₃
theorem sg_block_nil (h : Seg (model prog w) A R Y n s₀ (.block [] env) (leafOf (.ok .next)) fs s) : Seg (model prog w) A R Y n s₀ (.block [] env) ((model prog w).den (.block [] env)) fs s := h
end
section
variable {prog : Program} {w : World} {A : Around} {E : Value → Shared → Prop} {s : Shared}
theorem pyNext_genQ {a : Addr} {g n : Nat} {gs : GenState} {P : Nat → Shared → Shared → Prop} {Y : Protocol} {Q : Option Value → Shared → Prop} (hh : A.handled = none)
    (hl : s.heap.NoLimit) (hroom : A.depth < recursionLimit)
    (hg : s.heap.IsGen a g) (hgs : s.gens[g]? = some gs)
    (hgo : gs.Goes (model prog w) A.in1 (fun n s₀ r s₁ => r = .ok (.ret .none) ∧ P n s₀ s₁) Y n (.send .none) (s.setGen g .running))
    (hY : ∀ v s₁ gs', gs'.bare = true → Y (n - 1) (s.setGen g .running) v s₁ (fun r' s'' => match n with
        | 0 => False
        | m + 1 => gs'.Goes (model prog w) A.in1 (fun n s₀ r s₁ => r = .ok (.ret .none) ∧ P n s₀ s₁) Y m r' s'') → Q (some v) (s₁.setGen g gs'))
    (hP : ∀ s₁, P n (s.setGen g .running) s₁ → ∀ h', (∀ b o, s₁.heap.get? b = some o → h'.get? b = some o) → Q none { s₁.setGen g .finished with heap := h' }) :
    wpAny (model prog w) A (pyNext (.ref a)) Q E s := by
  unfold pyNext
  refine wpAny_bind (wpAny_attempt (wpAny_callSpecial?_slot (name := Str.ofString "__next__") hg.typeIs slot_gen_next
    (wpAny_call_entry slot_gen_next hg.typeIs entry_gen_next ?_ (args_gen_next _))))
  show wpAny _ A.in1 (Builtin.Generator.genWake (.ref a) (.send .none)) _ _ s
  unfold Builtin.Generator.genWake
  refine wpAny_bind (wpAny_holding (wpAny_genNumber hg (wpAny_bind (wpAny_genState hgs ?_))))
  cases gs with
  | running => exact hgo.elim
  | finished => exact hgo.elim
  | _ =>
    refine wpAny_bind (wpAny_roomToWake hl hroom ?_)
    show wpAny _ A.in1 (.resume g (.send .none) [] _) _ _ s
    refine wpAny_resumeQ hgs hgo (fun x s₁ hx => ?_) (fun v s₁ gs' hb hv => ?_)
    · obtain ⟨rfl, hp⟩ := hx
      show wpAny _ A.in1 (newExc (.type "StopIteration") [] >>= _) _ _ _
      refine wpAny_bind ?_
      simp only [newExc, newTuple]
      refine wpAny_bind (wpAny_newObj_type ?_ (by size_fits))
      refine wpAny_bind (m := firstArgMember _ _) (wpAny_of_eq (a := Value.none) (by first | rfl | (simp only [firstArgMember]; rfl)) ?_)
      refine wpAny_newObj_type ?_ (by size_fits)
      simp only [raiseNew]
      refine wpAny_bind (wpAny_bind (wpAny_handled ?_))
      first | rw [show A.in1.handled = none from hh] | rw [hh]
      refine wpAny_throw ?_
      refine wpAny_bind (wpAny_isInstance (T := "StopIteration") (b := true) ⟨_, Heap.get?_push_size _ rfl, rfl⟩ isSubtype_stop ?_)
      exact wpAny_pure (hP s₁ hp _ fun b o hb => Heap.get?_push_of_some _ (Heap.get?_push_of_some _ hb))
    · exact wpAny_pure ⟨v, rfl, wpAny_pure (hY v s₁ gs' hb hv)⟩
theorem tupleGo_gen {elts : List Expr} {k : Nat} {pos : Pos} {a t : Addr} {g : Nat} {Q : Unit → Shared → Prop} (hg : s.heap.IsGen a g) (h : Q () s) : wpAny (model prog w) A (letOwnedTupleGo (.Tuple elts k pos) (.ref a) (.ref t)) Q E s := by
  obtain ⟨o, nm, qn, ho, hc, hd, hs⟩ := hg
  unfold letOwnedTupleGo
  refine wpAny_bind (wpAny_load ho ?_)
  rw [hc, hd]
  show wpAny _ A (if (["enumerate", "zip", "dict_itemiterator", "dict_reverseitemiterator", "odict_iterator", "itertools.zip_longest", "itertools.pairwise"].contains "generator" && _) = true then _ else _) Q E s
  rw [if_neg (by simp)]
  exact wpAny_pure h
end
end SC
namespace SC
open PySem PySem.Spec PySem.Calls PyProof.Rows PySem.W
def AV.base : AV → Bool
  | .none | .bool _ | .int _ | .str _ | .ref _ => true
  | _ => false
def AV.flat : AV → Bool
  | .own xs => xs.all AV.base
  | A => A.base
theorem V.base {g g' : Addr → Option Obj} {A : AV} {v : Value} (hA : A.base = true) (h : V g A v) : V g' A v := by
  cases A with
  | none => obtain rfl := h.none_is; exact V.none
  | bool b => obtain rfl := h.bool_is; exact V.bool
  | int i => obtain ⟨t, rfl⟩ := h.int_is; exact V.int
  | str x => obtain ⟨t, rfl⟩ := h.str_is; exact V.str
  | list xs => cases hA
  | tup xs => cases hA
  | own xs => cases hA
  | ref a => obtain rfl := h.ref_is; exact V.ref
  | inst c A => cases hA
theorem Vs.base {g g' : Addr → Option Obj} : ∀ {xs : List AV} {vs : List Value}, xs.all AV.base = true → Vs g xs vs → Vs g' xs vs
  | [], vs, _, h => by rw [h.nil_is]; exact Vs.nil
  | x :: xs, vs, ha, h => by
    obtain ⟨v, r, rfl, q, h'⟩ := h.cons_is
    rw [List.all_cons, Bool.and_eq_true] at ha
    exact Vs.cons (q.base ha.1) (h'.base ha.2)
def RFlat (ρ : Rho) : Prop := ∀ x A, ρ.lookup x = some A → A.flat = true
theorem RFlat.nil : RFlat [] := fun _ _ h => by cases h
theorem RFlat.cons {x : Str} {A : AV} {ρ : Rho} (h : A.flat = true) (k : RFlat ρ) : RFlat ((x, A) :: ρ) := fun y B e => by
  rw [List.lookup_cons] at e
  by_cases q : y = x
  · subst q; simp at e; subst e; exact h
  · rw [beq_eq_false_iff_ne.mpr q] at e; exact k y B e
section
variable {W : Wd} {p : Bool} {C : Fc} {ρ : Rho}
theorem Inv.flat {s s' : Shared} (I : Inv W C ρ s) (hf : RFlat ρ) (hent : Kp C.ent s'.heap) (hL : ∀ o, s.heap.get? C.env.locals = some o → s'.heap.get? C.env.locals = some o)
    (hown : ∀ x a, C.own = some (x, a) → ∀ o, s.heap.get? a = some o → s'.heap.get? a = some o) (hcell : ∀ x c, C.env.cells.lookup x = some c → ∀ o, s.heap.get? c = some o → s'.heap.get? c = some o)
    (hmu : ∀ b ∈ C.mu, (s'.heap.get? b).isSome = true) : Inv W C ρ s' where
  wf := I.wf
  ent := hent
  ns := by
    obtain ⟨m, hn, hm⟩ := I.ns
    refine ⟨m, hn.at' hL, fun x A e q => ?_⟩
    obtain ⟨v, e1, e2⟩ := hm x A e q
    refine ⟨v, e1, ?_⟩
    have hb := hf x A e
    cases A with
    | own xs =>
      obtain ⟨a, n, vs, f1, f2, f3, f4⟩ := e2
      exact ⟨a, n, vs, f1, f2, hown x a f1 _ f3, f4.base hb⟩
    | _ => exact V.base (g := fz s.heap C.mu) hb e2
  cl := fun x A e q => by
    obtain ⟨c, v, e1, ⟨o, e2, e2'⟩, e3⟩ := I.cl x A e q
    refine ⟨c, v, e1, ⟨o, hcell x c e1 o e2, e2'⟩, ?_⟩
    have hb := hf x A e
    cases A with
    | own xs => exact (V.own_not e3).elim
    | _ => exact V.base (g := fz s.heap C.mu) hb e3
  ce := fun x c q e => by
    obtain ⟨v, o, h1, h2⟩ := I.ce x c q e
    exact ⟨v, o, hcell x c e o h1, h2⟩
  mub := hmu
  live := fun x c h => by
    obtain ⟨o, e⟩ := Option.isSome_iff_exists.mp (I.live x c h)
    rw [hcell x c h o e]; rfl
theorem Tr.name {x : Str} {pos : Pos} {b : Bool} (h : Ev W p C ρ (.Name x pos) (.bool b)) : Tr W p C ρ (.Name x pos) b := by
  intro s Q E I k
  refine isTrue_plain (h s _ _ I fun v s1 x1 v1 => ?_)
  obtain rfl := v1.bool_is
  exact wpAny_truthy_bool (k s1 x1)
theorem assignPair {x y : Str} {p1 p2 tpos : Pos} {q : Nat} {A B : AV} {s : Shared} {t : Addr} {va vb : Value} {Q : Unit → Shared → Prop} {E : Value → Shared → Prop} (I : Inv W C ρ s) (ht : IsTup s.heap t #[va, vb])
    (hA : V (fz s.heap C.mu) A va) (hB : V (fz s.heap C.mu) B vb) (hx : Sto W C ρ x A) (hy : Sto W C (upd ρ x A) y B) (k : ∀ s', Stm true C s s' → Inv W C (upd (upd ρ x A) y B) s' → Q () s')
    (ha : assignEach [.Name x p1, .Name y p2] C.env = [(false, PySem.assign (.Name x p1) C.env), (false, PySem.assign (.Name y p2) C.env)] := by rfl) :
    wpAny W.M C.A (assign (.Tuple [.Name x p1, .Name y p2] q tpos) C.env (.ref t)) Q E s := by
  refine assign_Tuple_tuple I.wf.rm.hd ht (by rw [ha]; rfl) (by rw [ha]; rfl) fun h' he => ?_
  have kp := ext_extBut he
  have x2 : Ext true s { s with heap := h' } := ⟨⟨rfl, rfl, GM.refl _ _⟩, kp⟩
  rw [ha]
  show wpAny W.M C.A (do holding [vb] (PySem.assign (.Name x p1) C.env va); (do holding [] (PySem.assign (.Name y p2) C.env vb); pure ())) _ _ _
  refine wpAny_bind (wpAny_holding (PyProof.Rows.assign_Name (hx _ va _ _ (I.ext x2) (V.mono (fz.kp kp) _ _ hA) fun s3 x3 I3 => ?_)))
  refine wpAny_bind (wpAny_holding (PyProof.Rows.assign_Name (hy _ vb _ _ I3 ?_ fun s4 x4 I4 => ?_)))
  · have m3 : ∀ b o, b ∉ C.mu → h'.get? b = some o → s3.heap.get? b = some o := fun b o n e => x3.km b o (fun q => n (I.wf.mo' q)) e
    exact V.mono (fun b o e => fz.of (m3 b o (fz.notin e) (kp b o (fz.get e))) (fz.notin e)) _ _ hB
  · exact wpAny_pure (k _ ((x2.stm.trans x3).trans x4) I4)
end
theorem strT {prog : Program} {w : World} (x : Str) (t : Tok) (e it : Addr) (hei : e ≠ it) (A : Around) (hA : A.handled = none) : WalksT prog w A e [e, it] [e, it] x.cps.size
    (fun i vals => ∃ u y, (∃ c u', x.cps[i]? = some c ∧ y = .str ⟨#[c]⟩ u') ∧ vals = #[.int i u, y]) (fun i h => (∃ old, IsEnum h e it i old) ∧ h.IsStrIter it (strIterType x) x t i)
    (fun i T h => (∃ y, IsEnumOut h e it ((i : Int) + 1) y T) ∧ h.IsStrIter it (strIterType x) x t (i + 1) ∧ T ≠ e ∧ T ≠ it) := by
  cases ha : x.cps.all (· < 128)
  · have e1 : strIterType x = "str_iterator" := by simp [strIterType, ha]
    rw [e1]; exact WalksT.enumerateD (Draws.strWide (A := A.in1) hA it x t) e hei (by simp [hei]) (by simp)
  · have e1 : strIterType x = "str_ascii_iterator" := by simp [strIterType, ha]
    rw [e1]; exact WalksT.enumerateD (Draws.strAscii (A := A.in1) hA it x t) e hei (by simp [hei]) (by simp)
end SC
namespace SC
open PySem PySem.Spec PySem.Calls PyProof.Rows PySem.W
set_option maxRecDepth 100000
def escFrom : Bool → Nat → List Nat → List (Int × Str)
  | e, i, [] => if e then [((i : Int) - 1, "\\")] else []
  | e, i, c :: r => if e then ((i : Int), ("\\" : Str) ++ (⟨#[c]⟩ : Str)) :: escFrom false (i + 1) r
      else if (⟨#[c]⟩ : Str) == "\\" then escFrom true (i + 1) r else ((i : Int), ⟨#[c]⟩) :: escFrom false (i + 1) r
def escL (x : Str) : List (Int × Str) := escFrom false 0 x.cps.toList
structure GKeep (N : Nat) (ga : Addr) (s s' : Shared) : Prop where
  dr : s'.drawn = s.drawn
  os : s'.os = s.os
  gens : s'.gens = s.gens
  kp : ∀ b o, (b < N ∨ b = ga) → s.heap.get? b = some o → s'.heap.get? b = some o
theorem GKeep.refl (N : Nat) (ga : Addr) (s : Shared) : GKeep N ga s s := ⟨rfl, rfl, rfl, fun _ _ _ e => e⟩
theorem GKeep.trans {N : Nat} {ga : Addr} {a b c : Shared} (x : GKeep N ga a b) (y : GKeep N ga b c) : GKeep N ga a c := ⟨y.dr.trans x.dr, y.os.trans x.os, y.gens.trans x.gens, fun q o h e => y.kp q o h (x.kp q o h e)⟩
structure GRes (N : Nat) (ent : Heap) (s s' : Shared) : Prop where
  kp : ∀ b o, N ≤ b → s.heap.get? b = some o → s'.heap.get? b = some o
  ent : Kp ent s'.heap
def GAt (its r : List (Int × Str)) (n : Nat) : Prop := n = r.length ∧ n ≤ its.length ∧ its.drop (its.length - n) = r
theorem GAt.head {its r : List (Int × Str)} {a : Int × Str} {n : Nat} (h : GAt its (a :: r) n) : ∃ m, n = m + 1 ∧ its[its.length - (m + 1)]? = some a ∧ GAt its r m := by
  obtain ⟨h1, h2, h3⟩ := h
  refine ⟨r.length, h1, ?_, rfl, by simp at h1; omega, ?_⟩
  · have := congrArg (·[0]?) h3
    rw [h1] at this
    simpa using this
  · have e : its.length - r.length = its.length - n + 1 := by simp at h1; omega
    rw [e, ← List.drop_drop, h3]; rfl
def gY (N : Nat) (ga : Addr) (ent : Heap) (its : List (Int × Str)) : Protocol := fun k s₀ v s' kont =>
  (∃ pos ch, its[its.length - (k + 1)]? = some (pos, ch) ∧ V (fun a => s'.heap.get? a) (.tup [.int pos, .str ch]) v) ∧ GKeep N ga s₀ s' ∧ ∀ s'', GRes N ent s' s'' → kont (.send .none) s''
def gP (N : Nat) (ga : Addr) (n : Nat) (s₀ s₁ : Shared) : Prop := n = 0 ∧ GKeep N ga s₀ s₁
def gR (N : Nat) (ga : Addr) : GenEnd := fun n s₀ r s₁ => r = .ok (.ret .none) ∧ gP N ga n s₀ s₁
def gC (A' : Around) (env : Env) (ent : Heap) : Fc := { A := A', env := env, ent := ent, mu := [env.locals], own := none, oc := fun _ => false }
def nth (l : List Stmt) (i : Nat) : Stmt := (l[i]?).getD (.Pass ⟨0, 0, 0, 0⟩)
def gTgt : Expr := match nth dIter.body 2 with | .For t _ _ _ _ => t | _ => .Constant .none 0 ⟨0, 0, 0, 0⟩
def gBody : List Stmt := match nth dIter.body 2 with | .For _ _ b _ _ => b | _ => []
def gRest : List Stmt := dIter.body.drop 3
abbrev gEnv (L f : Addr) (cd pm doc : Value) : Env := callEnvC (docDef dIter.name dIter.params dIter.body dIter.scope pm cd doc) L f
def gK0 (f : Flow) : Sem Fin := .pure (.done (.ret (match f with | .ret v => v | _ => .none)))
def gH0 (env : Env) (e : Value) : Sem Fin := (leaving env e).wrap (fun _ => .raise e) .raise id id
def gK1 (env : Env) (f : Flow) : Sem Fin := match f with | .next => (execs gRest env).wrap gK0 (gH0 env) id id | f => gK0 f
theorem GKeep.ext {N : Nat} {ga : Addr} {s s' : Shared} (x : Ext true s s') : GKeep N ga s s' := ⟨x.dr, x.os, by simpa [GM] using x.ge, fun b o _ e => x.kp b o e⟩
section
variable {W : Wd} {A : Around} {N : Nat} {ga f : Addr} {cd pm doc : Value} {ent : Heap} {its : List (Int × Str)}
theorem GKeep.stm {s s' : Shared} {A' : Around} (x : Stm true (gC A' (gEnv N f cd pm doc) ent) s s') (hga : ga ≠ N) : GKeep N ga s s' := ⟨x.dr, x.os, by simpa [GM] using x.ge, fun b o h e => x.km b o (fun q => by
  rcases q with q | ⟨y, hy, _⟩ | ⟨y, q⟩
  · have q : b = N := q
    rcases h with h | h
    · exact absurd q (Nat.ne_of_lt h)
    · exact hga (h ▸ q)
  · cases hy
  · cases q) e⟩
theorem gC_inv {A' A'' : Around} {env : Env} {ρ : Rho} {s : Shared} (I : Inv W (gC A' env ent) ρ s) (hr : Rm A'' 3) : Inv W (gC A'' env ent) ρ s :=
  { wf := { bs := I.wf.bs, rm := hr, gl := I.wf.gl, bi := I.wf.bi, kind := I.wf.kind, Lmu := I.wf.Lmu, Lent := I.wf.Lent, cL := I.wf.cL, cdis := fun _ _ _ h => (by cases h), cmu := fun _ _ h => (by cases h), omu := fun _ _ h => (by cases h) }
    ent := I.ent
    ns := by
      obtain ⟨m, hn, hm⟩ := I.ns
      refine ⟨m, hn, fun x B e q => ?_⟩
      obtain ⟨v, e1, e2⟩ := hm x B e q
      exact ⟨v, e1, VO.of_V (e2.noown rfl)⟩
    cl := I.cl
    ce := fun _ _ h => by cases h
    mub := I.mub
    live := I.live }
theorem gC_res {A' : Around} {ρ : Rho} {s s' : Shared} (I : Inv W (gC A' (gEnv N f cd pm doc) ent) ρ s) (hf : RFlat ρ) (x : GRes N ent s s') : Inv W (gC A' (gEnv N f cd pm doc) ent) ρ s' := by
  refine I.flat hf x.ent (fun o e => x.kp _ o (Nat.le_refl _) e) (fun _ _ h => by cases h) (fun y c h => by cases h) fun b hb => ?_
  obtain rfl : b = N := List.mem_singleton.mp hb
  obtain ⟨m, hn, _⟩ := I.ns
  obtain ⟨o, _, _, e, _⟩ := hn
  have := x.kp _ o (Nat.le_refl _) e
  show (s'.heap.get? b).isSome = true
  rw [show s'.heap.get? b = some o from this]; rfl
theorem seg_tail {n : Nat} {s₀ s : Shared} {esc : Bool} {pz : Int} (hr : Rm ((A.in1).over (.func dIter.body (gEnv N f cd pm doc)) []) 3) (hga : ga ≠ N)
    (I : Inv W (gC ((A.in1).over (.func dIter.body (gEnv N f cd pm doc)) []) (gEnv N f cd pm doc) ent) [("escape", .bool esc), ("pos", .int pz)] s) (hk : GKeep N ga s₀ s) (hat : GAt its (if esc then [(pz, "\\")] else []) n) :
    Seg W.M A.in1 (gR N ga) (gY N ga ent its) n s₀ (.func dIter.body (gEnv N f cd pm doc)) ((execs gRest (gEnv N f cd pm doc)).wrap gK0 (gH0 (gEnv N f cd pm doc)) id id) [] s := by
  refine seg_execs_cons (sg_If ?_)
  refine (Tr.name (W := W) (p := true) (C := gC ((A.in1).over (.func dIter.body (gEnv N f cd pm doc)) []) (gEnv N f cd pm doc) ent) (b := esc) (Ev.loc rfl rfl)) s _ _ I fun s1 x1 => ?_
  cases esc with
  | false =>
    rw [if_neg (by decide)] at hat ⊢
    obtain ⟨rfl, _, _⟩ := hat
    refine seg_execs_nil ?_
    show Seg W.M A.in1 (gR N ga) (gY N ga ent its) 0 s₀ (.func dIter.body (gEnv N f cd pm doc)) (leafOf (.ok (.ret .none))) [] s1
    exact seg_end _ ⟨rfl, rfl, hk.trans (.ext x1)⟩
  | true =>
    rw [if_pos rfl] at hat ⊢
    obtain ⟨m, rfl, h1, h2⟩ := hat.head
    obtain ⟨rfl, _, _⟩ := h2
    refine seg_execs_cons (seg_Expr_Yield rfl rfl rfl ?_ rfl rfl)
    refine (Ev.tupd (W := W) (p := true) (C := gC ((A.in1).over (.func dIter.body (gEnv N f cd pm doc)) []) (gEnv N f cd pm doc) ent) (Rs := [.int pz, .str "\\"]) (Evs.cons (Ev.loc rfl rfl) (Evs.cons Ev.cstr Evs.nil)) (by unfold sizeLine; simp)) s1 _ _ (I.ext x1) fun v s2 x2 v2 kap hkap => ?_
    refine ⟨⟨_, _, h1, V.mono (fun _ _ e => fz.get e) _ _ v2⟩, hk.trans (.ext (x1.trans x2)), fun s3 h3 => hkap .none s3 ?_⟩
    refine seg_execs_nil (seg_execs_nil ?_)
    show Seg W.M A.in1 (gR N ga) (gY N ga ent its) 0 s3 (.func dIter.body (gEnv N f cd pm doc)) (leafOf (.ok (.ret .none))) [] s3
    exact seg_end _ ⟨rfl, rfl, .refl _ _ _⟩
end
end SC
namespace SC
open PySem PySem.Spec PySem.Calls PyProof.Rows PySem.W
set_option maxRecDepth 100000
def gFr (env : Env) (p : Pos) : Frame := .ret (runK env (gK1 env) (gH0 env) id id) none (id false) (id []) (.func dIter.body env) p []
abbrev gA2 (A : Around) (env : Env) (e : Addr) (p : Pos) : Around := (A.in1).over (.forLoop gTgt (.ref e) gBody [] env) [gFr env p]
abbrev gA1 (A : Around) (env : Env) : Around := (A.in1).over (.func dIter.body env) []
theorem gA2_rm {A : Around} {env : Env} {e : Addr} {p : Pos} {n : Nat} (h : Rm A (n + 1)) : Rm (gA2 A env e p) n where
  hd := by show (marksOver _ (A.handled, A.handled)).1 = none; rw [h.hd]; rfl
  dp := by
    have : (gA2 A env e p).depth = A.depth + 1 + 0 := rfl
    rw [this]; have := h.dp; omega
  un := by
    have : (gA2 A env e p).units = (A.units + 1) + 3 + 0 := rfl
    rw [this]; have := h.un; omega
theorem gA1_rm {A : Around} {env : Env} {n : Nat} (h : Rm A (n + 1)) : Rm (gA1 A env) n where
  hd := by show (marksOver _ (A.handled, A.handled)).1 = none; rw [h.hd]; rfl
  dp := by
    have : (gA1 A env).depth = A.depth + 0 + 1 := rfl
    rw [this]; have := h.dp; omega
  un := by
    have : (gA1 A env).units = (A.units + 1) + 0 + 3 := rfl
    rw [this]; have := h.un; omega
section
variable {W : Wd} {A : Around} {N : Nat} {ga f : Addr} {cd pm doc : Value} {ent : Heap} {its : List (Int × Str)}
set_option maxHeartbeats 1000000 in
theorem seg_loop (hr : Rm A 4) (hga : ga ≠ N) {e it : Addr} {x : Str} {tk : Tok} {p : Pos} (hei : e ≠ it) (heN : N < e) (hiN : N < it) (hega : e ≠ ga) (higa : it ≠ ga) (hentN : ∀ b o, ent.get? b = some o → b < N) :
    ∀ (rest : List Nat) (i : Nat) (esc : Bool) (pz : Int) (n : Nat) (s₀ s : Shared), x.cps.toList.drop i = rest → i ≤ x.cps.size → (esc = true → pz = (i : Int) - 1) → GAt its (escFrom esc i rest) n →
      Inv W (gC (gA2 A (gEnv N f cd pm doc) e p) (gEnv N f cd pm doc) ent) [("escape", .bool esc), ("pos", .int pz)] s → ((∃ old, IsEnum s.heap e it i old) ∧ s.heap.IsStrIter it (strIterType x) x tk i) → GKeep N ga s₀ s →
      Seg W.M A.in1 (gR N ga) (gY N ga ent its) n s₀ (.forLoop gTgt (.ref e) gBody [] (gEnv N f cd pm doc)) (W.M.den (.forLoop gTgt (.ref e) gBody [] (gEnv N f cd pm doc))) [gFr (gEnv N f cd pm doc) p] s := by
  have hA2 : Rm (gA2 A (gEnv N f cd pm doc) e p) 3 := gA2_rm hr
  have WT := strT (prog := W.prog) (w := W.w) x tk e it hei (gA2 A (gEnv N f cd pm doc) e p) hA2.hd
  have frI : ∀ {ρ : Rho} {s s' : Shared}, RFlat ρ → Inv W (gC (gA2 A (gEnv N f cd pm doc) e p) (gEnv N f cd pm doc) ent) ρ s → (∀ b o, b ∉ [e, it] → s.heap.get? b = some o → s'.heap.get? b = some o) →
      Inv W (gC (gA2 A (gEnv N f cd pm doc) e p) (gEnv N f cd pm doc) ent) ρ s' := fun {ρ s s'} hf I hk => by
    have hent : ∀ b o, ent.get? b = some o → b ∉ [e, it] := fun b o q => by
      have := hentN b o q
      simp; exact ⟨Nat.ne_of_lt (Nat.lt_trans this heN), Nat.ne_of_lt (Nat.lt_trans this hiN)⟩
    have hN : N ∉ [e, it] := by simp; exact ⟨Nat.ne_of_lt heN, Nat.ne_of_lt hiN⟩
    refine I.flat hf (fun b o q => hk b o (hent b o q) (I.ent b o q)) (fun o q => hk _ o hN q) (fun _ _ h => by cases h) (fun y c h => by cases h) fun b hb => ?_
    obtain rfl : b = N := List.mem_singleton.mp hb
    obtain ⟨m, hn, _⟩ := I.ns
    obtain ⟨o, _, _, q, _⟩ := hn
    rw [show s'.heap.get? b = some o from hk _ o hN q]; rfl
  have gkp : ∀ {s s' : Shared}, s'.drawn = s.drawn → s'.os = s.os → s'.gens = s.gens → (∀ b o, b ∉ [e, it] → s.heap.get? b = some o → s'.heap.get? b = some o) → GKeep N ga s s' := fun {s s'} a b c h => ⟨a, b, c, fun q o hq eo => h q o (by
    rcases hq with hq | hq
    · simp; exact ⟨Nat.ne_of_lt (Nat.lt_trans hq heN), Nat.ne_of_lt (Nat.lt_trans hq hiN)⟩
    · simp; exact ⟨fun z => hega (z ▸ hq), fun z => higa (z ▸ hq)⟩) eo⟩
  have stK : ∀ {i : Nat} {s s' : Shared}, Stm true (gC (gA2 A (gEnv N f cd pm doc) e p) (gEnv N f cd pm doc) ent) s s' → ((∃ old, IsEnum s.heap e it i old) ∧ s.heap.IsStrIter it (strIterType x) x tk i) → ((∃ old, IsEnum s'.heap e it i old) ∧ s'.heap.IsStrIter it (strIterType x) x tk i) := fun {i s s'} xs st => by
    refine WT.frame i _ _ st fun b hb o q => xs.km b o (fun z => ?_) q
    rcases z with z | ⟨_, z, _⟩ | ⟨_, z⟩
    · have z : b = N := z
      subst z
      simp at hb
      rcases hb with hb | hb
      · exact Nat.ne_of_lt heN hb
      · exact Nat.ne_of_lt hiN hb
    · cases z
    · cases z
  have stR : ∀ {i : Nat} {s s' : Shared}, GRes N ent s s' → ((∃ old, IsEnum s.heap e it i old) ∧ s.heap.IsStrIter it (strIterType x) x tk i) → ((∃ old, IsEnum s'.heap e it i old) ∧ s'.heap.IsStrIter it (strIterType x) x tk i) := fun {i s s'} xs st => by
    refine WT.frame i _ _ st fun b hb o q => xs.kp b o ?_ q
    simp at hb
    rcases hb with rfl | rfl
    · exact Nat.le_of_lt heN
    · exact Nat.le_of_lt hiN
  intro rest
  induction rest with
  | nil =>
    intro i esc pz n s₀ s hd hi hpz hat I st hk
    have hin : i = x.cps.size := by
      have := congrArg List.length hd
      simp at this; omega
    subst hin
    refine sg_forLoop (fun E => WT.done s _ E st (fun h' tk' hk' => sg_block_nil (seg_leaf (.ok .next) ?_)))
    show Seg W.M A.in1 (gR N ga) (gY N ga ent its) n s₀ (.func dIter.body (gEnv N f cd pm doc)) ((execs gRest (gEnv N f cd pm doc)).wrap gK0 (gH0 (gEnv N f cd pm doc)) id id) [] _
    have I2 := frI (s' := { s with heap := h', toks := tk' }) (RFlat.cons rfl (RFlat.cons rfl RFlat.nil)) I hk'
    refine seg_tail (esc := esc) (pz := pz) (gA1_rm hr) hga (gC_inv I2 (gA1_rm hr)) (hk.trans (gkp rfl rfl rfl hk')) ?_
    rw [escFrom] at hat
    cases esc with
    | false => exact hat
    | true => rw [hpz rfl]; exact hat
  | cons c r ih =>
    intro i esc pz n s₀ s hd hi hpz hat I st hk
    have hlt : i < x.cps.size := by
      have := congrArg List.length hd
      simp at this; omega
    have hc : x.cps[i]? = some c := by
      have := congrArg (·[0]?) hd
      simpa using this
    have hr' : x.cps.toList.drop (i + 1) = r := by
      have := congrArg List.tail hd
      simpa using this
    refine sg_forLoop (fun E => WT.item i s _ E hlt st (fun T vals h1 tk1 hPt hT0 hTup hMid hk1 => WT.go _ _ _ i T _ _ E hMid (fun h2 st2 hk2 => ?_)))
    obtain ⟨u, y, ⟨c', u', hc', rfl⟩, rfl⟩ := hPt
    obtain rfl : c' = c := by rw [hc] at hc'; cases hc'; rfl
    have hTw : T ∉ [e, it] := WT.apart i T h1 hMid
    obtain ⟨oT, hT1, hT2, hT3⟩ := hTup
    have ht : IsTup h2 T #[.int i u, .str ⟨#[c']⟩ u'] := ⟨oT, hk2 T oT hTw hT1, hT2, hT3⟩
    have hk12 : ∀ b o, b ∉ [e, it] → s.heap.get? b = some o → h2.get? b = some o := fun b o nb q => hk2 b o nb (hk1 b o nb q)
    have I2 := frI (s' := { s with heap := h2, toks := tk1 }) (RFlat.cons rfl (RFlat.cons rfl RFlat.nil)) I hk12
    refine assignPair (x := "pos") (y := "ch") (A := .int i) (B := .str ⟨#[c']⟩) I2 ht V.int V.str (Sto.loc rfl) (Sto.loc rfl) (fun s3 x3 I3 => ?_) rfl
    have st3 := stK x3 st2
    have hk3 : GKeep N ga s₀ s3 := (hk.trans (gkp (s' := { s with heap := h2, toks := tk1 }) rfl rfl rfl hk12)).trans (.stm x3 hga)
    refine seg_execs_cons (sg_If ?_)
    refine (Tr.name (W := W) (p := true) (C := gC (gA2 A (gEnv N f cd pm doc) e p) (gEnv N f cd pm doc) ent) (b := esc) (Ev.loc rfl rfl)) s3 _ _ I3 fun s4 x4 => ?_
    have st4 := stK x4.stm st3
    have I4 := I3.ext x4
    have hk4 := hk3.trans (.ext x4)
    rw [escFrom] at hat
    cases esc with
    | true =>
      rw [if_pos rfl] at hat ⊢
      obtain ⟨m, rfl, g1, g2⟩ := hat.head
      refine seg_execs_cons (seg_Expr_Yield rfl rfl rfl ?_ rfl rfl)
      refine (Ev.tupd (W := W) (p := true) (C := gC (gA2 A (gEnv N f cd pm doc) e p) (gEnv N f cd pm doc) ent) (Rs := [.int i, .str (("\\" : Str) ++ ⟨#[c']⟩)]) (Evs.cons (Ev.loc rfl rfl) (Evs.cons (Ev.bin Ev.cstr (Ev.loc rfl rfl) (Bin.str_add _ _ (by unfold sizeLine; simp [Str.length]; decide))) Evs.nil)) (by unfold sizeLine; simp)) s4 _ _ I4 fun v s5 x5 v5 kap hkap => ?_
      refine ⟨⟨_, _, g1, V.mono (fun _ _ q => fz.get q) _ _ v5⟩, hk4.trans (.ext x5), fun s6 h6 => hkap .none s6 ?_⟩
      have I6 := gC_res (I4.ext x5) (RFlat.cons rfl (RFlat.cons rfl (RFlat.cons rfl (RFlat.cons rfl RFlat.nil)))) h6
      refine sg_stmt ((Ex.assign (W := W) (p := true) (C := gC (gA2 A (gEnv N f cd pm doc) e p) (gEnv N f cd pm doc) ent) Ev.cbool (Sto.loc rfl)) s6 _ _ I6 fun fl s7 x7 I7 e7 => ⟨e7, seg_execs_nil (seg_execs_nil ?_)⟩)
      refine seg_again rfl (ih (i + 1) false i m s6 s7 hr' hlt (by simp) g2 (I7.weak (Sub.cons rfl (Sub.cons rfl Sub.nil))) (stK x7 (stR h6 (stK x5.stm st4))) (.stm x7 hga))
    | false =>
      rw [if_neg (by decide)] at hat ⊢
      refine seg_execs_cons (sg_If ?_)
      refine (Tr.cmp (W := W) (p := true) (C := gC (gA2 A (gEnv N f cd pm doc) e p) (gEnv N f cd pm doc) ent) (Ev.loc rfl rfl) Ev.cstr (Cmp.seq ⟨#[c']⟩ "\\")) s4 _ _ I4 fun s5 x5 => ?_
      have st5 := stK x5.stm st4
      have I5 := I4.ext x5
      have hk5 := hk4.trans (.ext x5)
      by_cases hb : ((⟨#[c']⟩ : Str) == "\\") = true
      · rw [if_pos hb] at hat ⊢
        refine sg_stmt ((Ex.assign (W := W) (p := true) (C := gC (gA2 A (gEnv N f cd pm doc) e p) (gEnv N f cd pm doc) ent) Ev.cbool (Sto.loc rfl)) s5 _ _ I5 fun fl s7 x7 I7 e7 => ⟨e7, seg_execs_nil (seg_execs_nil (seg_execs_nil ?_))⟩)
        refine seg_again rfl (ih (i + 1) true i n s₀ s7 hr' hlt (by push_cast; omega) hat (I7.weak (Sub.cons rfl (Sub.cons rfl Sub.nil))) (stK x7 st5) (hk5.trans (.stm x7 hga)))
      · rw [if_neg hb] at hat ⊢
        obtain ⟨m, rfl, g1, g2⟩ := hat.head
        refine seg_execs_cons (seg_Expr_Yield rfl rfl rfl ?_ rfl rfl)
        refine (Ev.tupd (W := W) (p := true) (C := gC (gA2 A (gEnv N f cd pm doc) e p) (gEnv N f cd pm doc) ent) (Rs := [.int i, .str ⟨#[c']⟩]) (Evs.cons (Ev.loc rfl rfl) (Evs.cons (Ev.loc rfl rfl) Evs.nil)) (by unfold sizeLine; simp)) s5 _ _ I5 fun v s6 x6 v6 kap hkap => ?_
        refine ⟨⟨_, _, g1, V.mono (fun _ _ q => fz.get q) _ _ v6⟩, hk5.trans (.ext x6), fun s7 h7 => hkap .none s7 (seg_execs_nil (seg_execs_nil (seg_execs_nil ?_)))⟩
        have I7 := gC_res (I5.ext x6) (RFlat.cons rfl (RFlat.cons rfl (RFlat.cons rfl (RFlat.cons rfl RFlat.nil)))) h7
        refine seg_again rfl (ih (i + 1) false i m s7 s7 hr' hlt (by simp) g2 (I7.weak (Sub.cons rfl (Sub.cons rfl Sub.nil))) (stR h7 (stK x6.stm st5)) (.refl _ _ _))
end
end SC
namespace SC
open PySem PySem.Spec PySem.Calls PyProof.Rows PySem.W
set_option maxRecDepth 100000
section
variable {W : Wd} {A : Around} {N : Nat} {ga f : Addr} {cd pm doc : Value} {ent : Heap} {its : List (Int × Str)}
theorem seg_start (O : OkW W) (hr : Rm A 4) (hga : ga ≠ N) {x : Str} (hentN : ∀ b o, ent.get? b = some o → b < N) {n : Nat} {s₀ s : Shared} (hat : GAt its (escL x) n)
    (I : Inv W (gC (gA1 A (gEnv N f cd pm doc)) (gEnv N f cd pm doc) ent) [("addr", .str x)] s) (hgs : (s.heap.get? ga).isSome = true) (hk : GKeep N ga s₀ s) :
    Seg W.M A.in1 (gR N ga) (gY N ga ent its) n s₀ (.func dIter.body (gEnv N f cd pm doc)) (W.M.den (.func dIter.body (gEnv N f cd pm doc))) [] s := by
  refine seg_func ?_
  show Seg W.M A.in1 (gR N ga) (gY N ga ent its) n s₀ (.func dIter.body (gEnv N f cd pm doc)) ((execs dIter.body (gEnv N f cd pm doc)).wrap gK0 (gH0 (gEnv N f cd pm doc)) id id) [] s
  refine sg_stmt ((Ex.assign (W := W) (p := true) (C := gC (gA1 A (gEnv N f cd pm doc)) (gEnv N f cd pm doc) ent) Ev.cint (Sto.loc rfl)) s _ _ I fun fl s1 x1 I1 e1 => ⟨e1, ?_⟩)
  refine sg_stmt ((Ex.assign (W := W) (p := true) (C := gC (gA1 A (gEnv N f cd pm doc)) (gEnv N f cd pm doc) ent) Ev.cbool (Sto.loc rfl)) s1 _ _ I1 fun fl s2 x2 I2 e2 => ⟨e2, ?_⟩)
  have hk2 : GKeep N ga s₀ s2 := (hk.trans (.stm x1 hga)).trans (.stm x2 hga)
  have hgs2 : (s2.heap.get? ga).isSome = true := by
    obtain ⟨o, e⟩ := Option.isSome_iff_exists.mp hgs
    rw [((GKeep.stm x1 hga).trans (GKeep.stm x2 hga)).kp ga o (.inr rfl) e]; rfl
  refine seg_execs_cons (sg_For ?_ (by intro _; rfl))
  refine Call_ (Name_function_global I2.wf.kind rfl (loadGlobal_builtin I2.G.g (I2.G.free "enumerate" (O.free _ (by decide)) (by decide)) I2.G.b ((I2.G.builtins "enumerate" (by decide)).trans (by decide +kernel : bootBuiltins "enumerate" = some (.type "enumerate"))) ?_) (by decide))
  refine callWith_type1 ((Evs.cons (W := W) (p := true) (C := gC (gA1 A (gEnv N f cd pm doc)) (gEnv N f cd pm doc) ent) (Ev.loc (x := "addr") rfl rfl) Evs.nil) _ s2 _ _ I2 fun vs s3 x3 v3 => ?_) rfl
  obtain ⟨v, rfl, q⟩ := one v3
  obtain ⟨tk, rfl⟩ := q.str_is
  refine call_enumerate_str fun h' he hit hz hk' => ?_
  refine wpAny_pyIter_enum he fun pp => ?_
  have I3 := I2.ext x3
  have lt3 : ∀ {b : Addr}, (s3.heap.get? b).isSome = true → b < s3.heap.objs.size := fun {b} e => by
    obtain ⟨o, e⟩ := Option.isSome_iff_exists.mp e
    exact Heap.lt_size e
  have hN : N < s3.heap.objs.size := lt3 (I3.mub N (.head _))
  have hg3 : ga < s3.heap.objs.size := lt3 (by
    obtain ⟨o, e⟩ := Option.isSome_iff_exists.mp hgs2
    rw [x3.kp _ _ e]; rfl)
  have x4 : Ext true s3 { s3 with heap := h' } := ⟨⟨rfl, rfl, GM.refl _ _⟩, hk'⟩
  refine seg_loop (x := x) (tk := tk) (i := 0) (esc := false) (pz := 0) hr hga (Nat.ne_of_gt (Nat.lt_succ_self _)) (Nat.lt_succ_of_lt hN) hN (Nat.ne_of_gt (Nat.lt_succ_of_lt hg3)) (Nat.ne_of_gt hg3) hentN x.cps.toList n s₀ _ (by rfl) (Nat.zero_le _) (by simp) hat ?_ ⟨⟨_, he⟩, hit⟩ (hk2.trans (.ext (x3.trans x4)))
  exact (gC_inv ((I3.ext x4).weak (Sub.cons rfl (Sub.cons rfl Sub.nil))) (gA2_rm hr))
end
end SC
namespace SC
open PySem PySem.Spec PySem.Calls PyProof.Rows PySem.W
set_option maxRecDepth 100000
theorem Inv.gens {W : Wd} {C : Fc} {ρ : Rho} {s s' : Shared} (I : Inv W C ρ s) (h : s'.heap = s.heap) : Inv W C ρ s' := I.kp (fun b o e => by rw [h]; exact e)
structure GenAt (W : Wd) (A : Around) (N : Nat) (ga g : Addr) (ent : Heap) (its : List (Int × Str)) (n : Nat) (s : Shared) : Prop where
  isg : s.heap.IsGen ga g
  go : ∃ gs, s.gens[g]? = some gs ∧ gs.bare = true ∧ ∀ s2, GRes N ent s s2 → gs.Goes W.M A.in1 (gR N ga) (gY N ga ent its) n (.send .none) (s2.setGen g .running)
theorem GRes.refl {N : Nat} {ent : Heap} {s : Shared} (h : Kp ent s.heap) : GRes N ent s s := ⟨fun _ _ _ e => e, h⟩
theorem GRes.trans {N : Nat} {ent : Heap} {a b c : Shared} (x : GRes N ent a b) (y : GRes N ent b c) : GRes N ent a c := ⟨fun q o h e => y.kp q o h (x.kp q o h e), y.ent⟩
section
variable {W : Wd} {A : Around} {N : Nat} {ga g : Addr} {ent : Heap} {its : List (Int × Str)}
theorem GenAt.res {n : Nat} {s s' : Shared} (x : GenAt W A N ga g ent its n s) (r : GRes N ent s s') (hg : N ≤ ga) (h : s'.gens = s.gens) : GenAt W A N ga g ent its n s' := by
  obtain ⟨gs, h1, h2, h3⟩ := x.go
  refine ⟨?_, gs, by rw [h]; exact h1, h2, fun s2 r2 => h3 s2 (r.trans r2)⟩
  obtain ⟨o, nm, qn, ho, r'⟩ := x.isg
  exact ⟨o, nm, qn, r.kp _ _ hg ho, r'⟩
theorem GenAt.next {n : Nat} {s : Shared} {Q : Option Value → Shared → Prop} {E : Value → Shared → Prop} (x : GenAt W A N ga g ent its n s) (rm : Rm A 1) (hl : s.heap.NoLimit) (hent : Kp ent s.heap) (hentN : ∀ b o, ent.get? b = some o → b < N)
    (h0 : n = 0 → ∀ s' gs', gs'.bare = true → s'.gens = s.gens.setIfInBounds g gs' → s'.drawn = s.drawn → s'.os = s.os → (∀ b o, (b < N ∨ b = ga) → s.heap.get? b = some o → s'.heap.get? b = some o) → Q none s')
    (h1 : ∀ m pos ch v s' gs', n = m + 1 → its[its.length - (m + 1)]? = some (pos, ch) → V (fun a => s'.heap.get? a) (.tup [.int pos, .str ch]) v → gs'.bare = true → s'.gens = s.gens.setIfInBounds g gs' → s'.drawn = s.drawn → s'.os = s.os →
      (∀ b o, (b < N ∨ b = ga) → s.heap.get? b = some o → s'.heap.get? b = some o) → GenAt W A N ga g ent its m s' → Q (some v) s') : wpAny W.M A (pyNext (.ref ga)) Q E s := by
  obtain ⟨gs, e1, e2, e3⟩ := x.go
  refine pyNext_genQ (P := gP N ga) rm.hd hl (by have := rm.dp; omega) x.isg e1 (e3 s (.refl hent)) (fun v s₁ gs' hb hY => ?_) (fun s₁ hP h' hk => ?_)
  · cases n with
    | zero =>
      obtain ⟨_, gk, hk⟩ := hY
      exact (hk s₁ ⟨fun _ _ _ e => e, fun b o e => gk.kp b o (.inl (hentN b o e)) (hent b o e)⟩).elim
    | succ m =>
      obtain ⟨⟨pos, ch, g1, g2⟩, gk, hk⟩ := hY
      have es : (s₁.setGen g gs').heap = s₁.heap := rfl
      have eg : (s₁.setGen g gs').gens = s.gens.setIfInBounds g gs' := by
        show s₁.gens.setIfInBounds g gs' = _
        rw [gk.gens]
        show (s.gens.setIfInBounds g .running).setIfInBounds g gs' = _
        simp [Array.setIfInBounds_setIfInBounds]
      refine h1 m pos ch v _ gs' rfl g1 g2 hb eg gk.dr gk.os (fun b o h e => gk.kp b o h e) ⟨?_, gs', ?_, hb, fun s2 r2 => ?_⟩
      · obtain ⟨o, nm, qn, ho, r'⟩ := x.isg
        exact ⟨o, nm, qn, gk.kp _ _ (.inr rfl) ho, r'⟩
      · rw [eg]
        have hlt : g < s.gens.size := by
          rcases Nat.lt_or_ge g s.gens.size with q | q
          · exact q
          · rw [Array.getElem?_eq_none q] at e1; cases e1
        simp [hlt]
      · exact hk _ ⟨r2.kp, r2.ent⟩
  · obtain ⟨rfl, gk⟩ := hP
    refine h0 rfl _ .finished rfl ?_ gk.dr gk.os (fun b o h e => hk b o (gk.kp b o h e))
    show s₁.gens.setIfInBounds g .finished = _
    rw [gk.gens]
    show (s.gens.setIfInBounds g .running).setIfInBounds g .finished = _
    simp [Array.setIfInBounds_setIfInBounds]
end
section
variable {W : Wd} {C : Fc} {ρ : Rho}
theorem gen_call (O : OkW W) {s : Shared} {x : Str} {t : Tok} {fa : Addr} {Q E : Value → Shared → Prop} (I : Inv W C ρ s) (rm : Rm C.A 5) (hm : W.mg dIter.name = some (.ref fa))
    (h : ∀ (N ga : Addr) (gs0 : GenState) (s' : Shared), s.heap.objs.size ≤ N → N < ga → Kp s.heap s'.heap → s'.drawn = s.drawn → s'.os = s.os → s'.gens = s.gens.push gs0 → gs0.bare = true → GenAt W C.A N ga s.gens.size C.ent (escL x) (escL x).length s' → Q (.ref ga) s') :
    wpAny W.M C.A (call (.ref fa) [.str x t]) Q E s := by
  obtain ⟨a, c', o, pm, doc, _, _, h3, h4, h5, h6⟩ := (I.G.made dIter (O.defs 3 (by decide))).plain rfl
  obtain rfl : a = fa := by rw [h3] at hm; cases hm; rfl
  refine wpAny_call (codeAny_call_generator (by have := rm.dp; omega) h4 h5 rfl rfl rfl h6 ?_)
  refine wpAny_of_eq (a := [(("addr" : Str), Value.str x t)]) (by rfl) ?_
  refine wpAny_newFunctionEnv_cells rfl (fun y hy => ?_) fun env henv s2 ic => ?_
  · obtain rfl : y = (("addr" : Str), Value.str x t) := List.mem_singleton.mp hy
    exact .inl rfl
  · obtain rfl : env = gEnv s.heap.objs.size a (.ref c') pm doc := henv
    obtain ⟨h2, tk2, rfl⟩ := ic.toInCall.same
    have kp2 : Kp s.heap h2 := ic.toInCall.keep
    have nlim : h2.NoLimit := I.G.nolimit.keeps kp2
    refine ⟨nlim, ?_⟩
    dsimp only
    generalize hob : ({ cls := .type "generator", data := .fields #[.int s.gens.size 0, .str (docDef dIter.name dIter.params dIter.body dIter.scope pm (.ref c') doc).name tk2, .str (docDef dIter.name dIter.params dIter.body dIter.scope pm (.ref c') doc).qualname (tk2 + 1)] } : Obj) = ob
    have kp3 : Kp h2 (h2.push ob) := kpush _ _
    have hL : (h2.get? s.heap.objs.size).isSome = true := by
      obtain ⟨o, _, _, e, _⟩ := ic.toInCall.ns
      exact Option.isSome_iff_exists.mpr ⟨o, e⟩
    have hlt : s.heap.objs.size < h2.objs.size := by
      obtain ⟨o, e⟩ := Option.isSome_iff_exists.mp hL
      exact Heap.lt_size e
    have hga : (h2.push ob).get? h2.objs.size = some ob := Heap.get?_push_size _ (by rw [← hob]; rfl)
    have entN : ∀ b o, C.ent.get? b = some o → b < s.heap.objs.size := fun b o e => Heap.lt_size (I.ent b o e)
    have inv3 : Inv W (gC (gA1 C.A (gEnv s.heap.objs.size a (.ref c') pm doc)) (gEnv s.heap.objs.size a (.ref c') pm doc) C.ent) [("addr", .str x)]
        { s with heap := h2.push ob, gens := s.gens.push (.fresh (.func dIter.body (gEnv s.heap.objs.size a (.ref c') pm doc))), toks := tk2 + 1 + 1 } :=
      { wf := { bs := I.wf.bs, rm := gA1_rm (rm.le (by omega)), gl := rfl, bi := rfl, kind := rfl, Lmu := .head _
                Lent := by
                  show C.ent.get? s.heap.objs.size = none
                  cases e : C.ent.get? s.heap.objs.size with
                  | none => rfl
                  | some o => exact absurd (entN _ _ e) (Nat.lt_irrefl _)
                cL := fun _ _ h => (by cases h)
                cdis := fun _ _ _ h => (by cases h)
                cmu := fun _ _ h => (by cases h)
                omu := fun _ _ h => (by cases h) }
        ent := fun b o e => kp3 b o (kp2 b o (I.ent b o e))
        ns := ⟨_, ic.toInCall.ns.keeps kp3, fun y A e q => by
          obtain ⟨v, e1, _, e2⟩ := bind_at (g := fz (h2.push ob) [s.heap.objs.size]) (k := (gEnv s.heap.objs.size a (.ref c') pm doc).kindOf) (ns := [("addr" : Str)]) (As := [.str x]) (vs := [.str x t]) (m := fun _ => none) (cm := fun _ => none) (by simp) rfl (Vs.cons V.str Vs.nil) (x := y) (A := A) e
          exact ⟨v, e1 q, VO.of_V e2⟩⟩
        cl := fun y A e q => by
          have : y = "addr" := by
            rw [List.lookup_cons] at e
            by_cases z : y = "addr"
            · exact z
            · rw [beq_eq_false_iff_ne.mpr z] at e; cases e
          subst this
          exact absurd rfl q
        ce := fun _ _ h => by cases h
        mub := fun b hb => by
          obtain rfl : b = s.heap.objs.size := List.mem_singleton.mp hb
          obtain ⟨o, e⟩ := Option.isSome_iff_exists.mp hL
          show ((h2.push ob).get? s.heap.objs.size).isSome = true
          rw [kp3 _ _ e]; rfl
        live := fun _ _ h => by cases h }
    refine h s.heap.objs.size h2.objs.size (.fresh (.func dIter.body (gEnv s.heap.objs.size a (.ref c') pm doc))) _ (Nat.le_refl _) hlt (fun b o e => kp3 b o (kp2 b o e)) rfl rfl rfl rfl ⟨?_, .fresh (.func dIter.body (gEnv s.heap.objs.size a (.ref c') pm doc)), ?_, rfl, fun s4 r4 => ?_⟩
    · subst hob
      exact ⟨_, _, _, hga, rfl, rfl, rfl⟩
    · show (s.gens.push _)[s.gens.size]? = _
      simp
    · refine ⟨rfl, seg_start O (rm.le (by omega)) (Nat.ne_of_gt hlt) entN ⟨rfl, Nat.le_refl _, by simp⟩ ?_ ?_ (.refl _ _ _)⟩
      · exact (gC_res inv3 (RFlat.cons rfl RFlat.nil) r4).gens rfl
      · show (s4.heap.get? h2.objs.size).isSome = true
        rw [r4.kp _ _ (Nat.le_of_lt hlt) hga]; rfl
end
end SC
namespace SC
open PySem PySem.Spec PySem.Calls PyProof.Rows PySem.W
set_option maxRecDepth 100000
theorem GE.push1 {g : Array GenState} {x : GenState} (h : x.bare = true) : GE g (g.push x) := ⟨[x], by simp, by simp [h]⟩
section
variable (W : Wd) (C : Fc)
inductive Lg (a b : Str) (body : List Stmt) : List (Int × Str) → Rho → Fl → Rho → Prop
  | done {ρ : Rho} : RFlat ρ → Lg a b body [] ρ .next ρ
  | step {i : Int} {ch : Str} {xs : List (Int × Str)} {ρ ρ1 ρ2 ρ3 : Rho} {fl : Fl} : RFlat ρ → Sto W C ρ a (.int i) → Sto W C (upd ρ a (.int i)) b (.str ch) → Exs W true C (upd (upd ρ a (.int i)) b (.str ch)) body .next ρ1 →
      (∀ y A, ρ2.lookup y = some A → ρ1.lookup y = some A) → Lg a b body xs ρ2 fl ρ3 → Lg a b body ((i, ch) :: xs) ρ fl ρ3
  | ret {i : Int} {ch : Str} {xs : List (Int × Str)} {ρ ρ1 : Rho} {A : AV} : RFlat ρ → Sto W C ρ a (.int i) → Sto W C (upd ρ a (.int i)) b (.str ch) → Exs W true C (upd (upd ρ a (.int i)) b (.str ch)) body (.ret A) ρ1 →
      Lg a b body ((i, ch) :: xs) ρ (.ret A) ρ1
variable {W C}
theorem Lg.flat {a b : Str} {body : List Stmt} {xs : List (Int × Str)} {ρ ρ' : Rho} {fl : Fl} (h : Lg W C a b body xs ρ fl ρ') : RFlat ρ := by cases h <;> assumption
variable {ρ : Rho}
set_option maxHeartbeats 1000000 in
theorem Ex.forGen (O : OkW W) {a b : Str} {p1 p2 tpos p3 p4 pos : Pos} {q : Nat} {e : Expr} {body : List Stmt} {x : Str} {fl : Fl} {ρ0 ρ' : Rho} (rm : Rm C.A 5) (he : Ev W true C ρ e (.str x)) (hL : Lg W C a b body (escL x) ρ0 fl ρ') (hsub : ∀ y A, ρ0.lookup y = some A → ρ.lookup y = some A)
    (hk : C.env.kindOf "_iter_escaped_chars" = some .globalImplicit)
    (hst : starEach [e] C.env = (false, eval e C.env) :: starEach [] C.env := by rfl)
    (ha : assignEach [.Name a p1, .Name b p2] C.env = [(false, PySem.assign (.Name a p1) C.env), (false, PySem.assign (.Name b p2) C.env)] := by rfl) :
    Ex W false C ρ (.For (.Tuple [.Name a p1, .Name b p2] q tpos) (.Call (.Name "_iter_escaped_chars" p3) [e] [] p4) body [] pos) fl ρ' := by
  intro s Q E I k
  obtain ⟨fa, c', o, pm, doc, _, _, h3, h4, h5, h6⟩ := (I.G.made dIter (O.defs 3 (by decide))).plain rfl
  refine wpAny_For (Call_ (Name_function_global I.wf.kind hk (loadGlobal_global (by rw [I.wf.gl]; exact I.G.g) h3 ?_) (by decide)))
  refine callWith_def h5 (Evs.cons he Evs.nil hst p4 s _ _ I fun vs s1 x1 v1 => ⟨x1.kp _ _ h4, ?_⟩) hst
  obtain ⟨v, rfl, hv⟩ := one v1
  obtain ⟨t, rfl⟩ := hv.str_is
  have I1 := I.ext x1
  refine gen_call O I1 rm h3 fun N ga gs0 s2 hN hga kp2 dr2 os2 gens2 bare0 G2 => ?_
  refine wpAny_pyIter_gen G2.isg ?_
  have I2 : Inv W C ρ0 s2 := (I1.kp kp2).weak hsub
  have entN : ∀ b o, C.ent.get? b = some o → b < N := fun b o e => Nat.lt_of_lt_of_le (Heap.lt_size (I1.ent b o e)) hN
  have muN : ∀ b ∈ C.mu, b < N := fun b hb => by
    obtain ⟨o, e⟩ := Option.isSome_iff_exists.mp (I1.mub b hb)
    exact Nat.lt_of_lt_of_le (Heap.lt_size e) hN
  have celN : ∀ y c, C.env.cells.lookup y = some c → c < N := fun y c h => by
    obtain ⟨o, e⟩ := Option.isSome_iff_exists.mp (I1.live y c h)
    exact Nat.lt_of_lt_of_le (Heap.lt_size e) hN
  have moN : ∀ b, C.mo b → b < N := fun b h => muN b (I.wf.mo' h)
  have keepI : ∀ {ρ : Rho} {s s' : Shared}, RFlat ρ → Inv W C ρ s → (∀ b o, (b < N ∨ b = ga) → s.heap.get? b = some o → s'.heap.get? b = some o) → Inv W C ρ s' := fun {ρ s s'} hf I h => by
    refine I.flat hf (fun b o e => h b o (.inl (entN b o e)) (I.ent b o e)) (fun o e => h _ o (.inl (muN _ I.wf.Lmu)) e) (fun y a e o q => h a o (.inl (muN a (I.wf.omu y a e).1)) q) (fun y c e o q => h c o (.inl (celN y c e)) q) fun b hb => ?_
    obtain ⟨o, e⟩ := Option.isSome_iff_exists.mp (I.mub b hb)
    rw [h b o (.inl (muN b hb)) e]; rfl
  refine codeAny_forLoop_any (prog := W.prog) (w := W.w) (fun n s' => ∃ rest ρi gs, n = rest.length ∧ Lg W C a b body rest ρi fl ρ' ∧ GAt (escL x) rest n ∧ Inv W C ρi s' ∧ GenAt W C.A N ga s1.gens.size C.ent (escL x) n s' ∧ s'.gens = s1.gens.push gs ∧ gs.bare = true ∧
    s'.drawn = s1.drawn ∧ s'.os = s1.os ∧ (∀ b o, ¬ C.mo b → s1.heap.get? b = some o → s'.heap.get? b = some o)) ?_ (escL x).length
    ⟨escL x, ρ0, gs0, rfl, hL, ⟨rfl, Nat.le_refl _, by simp⟩, I2, G2, gens2, bare0, dr2, os2, fun b o _ e => kp2 b o e⟩
  rintro n s' ⟨rest, ρi, gs, rfl, hl, hat, Ii, Gi, gensi, barei, dri, osi, kki⟩
  have hf := hl.flat
  have outS : ∀ {s4 : Shared} {gs' : GenState}, s4.gens = s1.gens.push gs' → gs'.bare = true → s4.drawn = s1.drawn → s4.os = s1.os → (∀ b o, ¬ C.mo b → s1.heap.get? b = some o → s4.heap.get? b = some o) → Stm false C s s4 := fun {s4 gs'} h1 h2 h3 h4 h5 => by
    have e1 : s1.gens = s.gens := by have := x1.ge; simpa [GM] using this
    refine ⟨⟨h3.trans x1.dr, h4.trans x1.os, ?_⟩, fun b o nb e => h5 b o nb (x1.kp b o e)⟩
    show GM false s.gens s4.gens
    rw [h1, e1]
    exact GE.push1 h2
  have setg : ∀ gs', (s1.gens.push gs).setIfInBounds s1.gens.size gs' = s1.gens.push gs' := fun gs' => by
    apply Array.ext'
    simp
  refine Gi.next (rm.le (by omega)) Ii.G.nolimit Ii.ent entN (fun hn s3 gs' hb hg dr os kk => ?_) (fun m i ch v s3 gs' hn hit hv hb hg dr os kk G3 => ?_)
  · have : rest = [] := List.length_eq_zero_iff.mp hn
    subst this
    cases hl
    have I3 := keepI hf Ii kk
    refine wpAny_execs_nil ?_
    rw [gensi, setg] at hg
    exact k _ _ (outS hg hb (dr.trans dri) (os.trans osi) fun b o nb e => kk b o (.inl (Nat.lt_of_lt_of_le (Heap.lt_size e) hN)) (kki b o nb e)) I3 rfl
  · cases rest with
    | nil => cases hn
    | cons y rest =>
      obtain ⟨m', e1, e2, hat'⟩ := hat.head
      obtain rfl : m' = m := by omega
      obtain rfl : y = (i, ch) := by rw [hit] at e2; cases e2; rfl
      obtain rfl : m' = rest.length := hat'.1
      have I3 := keepI hf Ii kk
      obtain ⟨T, nT, vs, rfl, hT, hvs⟩ := hv.tup_is
      obtain ⟨va, vb, rfl, ka, kb⟩ := two hvs
      have ht : IsTup s3.heap T #[va, vb] := ⟨_, hT, rfl, _, rfl⟩
      obtain ⟨ta, rfl⟩ := ka.int_is
      obtain ⟨tb, rfl⟩ := kb.str_is
      rw [gensi, setg] at hg
      have kk3 : ∀ b o, ¬ C.mo b → s1.heap.get? b = some o → s3.heap.get? b = some o := fun b o nb e => kk b o (.inl (Nat.lt_of_lt_of_le (Heap.lt_size e) hN)) (kki b o nb e)
      refine tupleGo_gen G3.isg ?_
      cases hl with
      | step f1 sa sb hx hw hl' =>
        refine assignPair I3 ht V.int V.str sa sb (fun s4 x4 I4 => ?_) ha
        refine hx s4 _ _ I4 fun fl s5 x5 I5 e5 => ?_
        obtain rfl : fl = .next := e5
        have x45 := x4.trans x5
        have g5 : s5.gens = s3.gens := by have := x45.ge; simpa [GM] using this
        have r5 : GRes N C.ent s3 s5 := ⟨fun b o hb e => x45.km b o (fun z => Nat.lt_irrefl _ (Nat.lt_of_lt_of_le (moN b z) hb)) e, I5.ent⟩
        exact ⟨_, by simp, rest, _, gs', rfl, hl', hat', I5.weak hw, G3.res r5 (Nat.le_of_lt hga) g5, by rw [g5, hg], hb, x45.dr.trans (dr.trans dri), x45.os.trans (os.trans osi), fun b o nb e => x45.km b o nb (kk3 b o nb e)⟩
      | ret f1 sa sb hx =>
        refine assignPair I3 ht V.int V.str sa sb (fun s4 x4 I4 => ?_) ha
        refine hx s4 _ _ I4 fun fl s5 x5 I5 e5 => ?_
        obtain ⟨u, rfl, hu⟩ := e5
        have x45 := x4.trans x5
        have g5 : s5.gens = s3.gens := by have := x45.ge; simpa [GM] using this
        exact k _ _ (outS (g5.trans hg) hb (x45.dr.trans (dr.trans dri)) (x45.os.trans (os.trans osi)) fun b o nb e => x45.km b o nb (kk3 b o nb e)) I5 ⟨u, rfl, hu⟩
end
end SC
namespace SC
open PySem PySem.Spec PySem.Calls PyProof.Rows PySem.W
set_option maxRecDepth 100000
theorem Tr.val {W : Wd} {p : Bool} {C : Fc} {ρ : Rho} {e : Expr} {b : Bool} (h : Ev W p C ρ e (.bool b)) (he : isTrue e C.env (eval e C.env) = (do let v ← eval e C.env; standAt e.pos; holding [v] (truthy v)) := by rfl) : Tr W p C ρ e b := by
  intro s Q E I k
  refine isTrue_plain (h s _ _ I fun v s1 x1 v1 => ?_) he
  obtain rfl := v1.bool_is
  exact wpAny_truthy_bool (k s1 x1)
theorem Cmp.seqT {prog : Program} {w : World} {a b : Str} {r : Bool} (h : (a == b) = r) : Cmp prog w .Eq (.str a) (.str b) r := h ▸ Cmp.seq a b
theorem Cmp.neT {prog : Program} {w : World} {a b : Int} {r : Bool} (h : (a != b) = r) : Cmp prog w .NotEq (.int a) (.int b) r := h ▸ Cmp.ne a b
theorem Cmp.ltT {prog : Program} {w : World} {a b : Int} {r : Bool} (h : decide (a < b) = r) : Cmp prog w .Lt (.int a) (.int b) r := h ▸ Cmp.lt a b
theorem Lg.fold {W : Wd} {C : Fc} {a b : Str} {body : List Stmt} {β : Type} (g : β → Rho) (step : β → Int × Str → β) (ok : β → List (Int × Str) → Prop)
    (h : ∀ c i ch r, ok c ((i, ch) :: r) → RFlat (g c) ∧ Sto W C (g c) a (.int i) ∧ Sto W C (upd (g c) a (.int i)) b (.str ch) ∧ (∃ ρ1, Exs W true C (upd (upd (g c) a (.int i)) b (.str ch)) body .next ρ1 ∧ Sub (g (step c (i, ch))) ρ1) ∧ ok (step c (i, ch)) r)
    (hd : ∀ c, ok c [] → RFlat (g c)) : ∀ (xs : List (Int × Str)) (c : β), ok c xs → Lg W C a b body xs (g c) .next (g (xs.foldl step c))
  | [], c, hc => .done (hd c hc)
  | (i, ch) :: xs, c, hc => by
    obtain ⟨h1, h2, h3, ⟨ρ1, h4, h5⟩, h6⟩ := h c i ch xs hc
    exact .step h1 h2 h3 h4 h5 (Lg.fold g step ok h hd xs _ h6)
theorem slc_len (x : Str) (l u : Option Int) : (slc x l u).length ≤ x.length := by
  unfold slc
  split
  · exact Nat.le_refl _
  · have h1 := List.length_filterMap_le (x.cps[·]?) (Builtin.Str.strSliceIndices l u 1 x.length)
    have h2 := indices_len_le l u x.length
    show (List.toArray _).size ≤ _
    rw [List.size_toArray]; omega
theorem escFrom_len : ∀ (e : Bool) (i : Nat) (r : List Nat), (escFrom e i r).length ≤ r.length + (if e then 1 else 0)
  | e, i, [] => by cases e <;> simp [escFrom]
  | e, i, c :: r => by
    rw [escFrom]
    cases e with
    | true => have := escFrom_len false (i + 1) r; simp at this ⊢; omega
    | false =>
      simp only [Bool.false_eq_true, if_false]
      split
      · have := escFrom_len true (i + 1) r; simp at this ⊢; omega
      · have := escFrom_len false (i + 1) r; simp at this ⊢; omega
theorem escL_len (x : Str) : (escL x).length ≤ x.length := by
  have := escFrom_len false 0 x.cps.toList
  simp at this; exact this
def optAV : Option Int → AV
  | none => .none
  | some i => .int i
abbrev StripS := Int × Option Int × List Str
def stripStep (x : Str) (c : StripS) (t : Int × Str) : StripS :=
  if t.2 == "\"" then (match c.2.1 with
    | none => (c.1, some t.1, c.2.2)
    | some o => (t.1 + 1, none, if c.1 != o then c.2.2 ++ [slc x (some c.1) (some o)] else c.2.2)) else c
def stripEnd (x : Str) (c : StripS) : List Str := if c.1 < (x.length : Int) then c.2.2 ++ [slc x (some c.1) none] else c.2.2
def stripS (x : Str) : Str := if Txt.contains x "\"" then Txt.join "" (stripEnd x ((escL x).foldl (stripStep x) (0, none, []))) else x
variable {W : Wd}
def okS (x : Str) (c : StripS) (xs : List (Int × Str)) : Prop := c.2.2.length + xs.length ≤ x.length ∧ ∀ y ∈ c.2.2, y.length ≤ x.length
theorem okS.step {x : Str} {c : StripS} {t : Int × Str} {r : List (Int × Str)} (h : okS x c (t :: r)) : okS x (stripStep x c t) r := by
  obtain ⟨h1, h2⟩ := h
  simp only [List.length_cons] at h1
  unfold stripStep
  by_cases q : (t.2 == "\"") = true
  · rw [if_pos q]
    cases hc : c.2.1 with
    | none => exact ⟨by show c.2.2.length + _ ≤ _; omega, h2⟩
    | some o =>
      by_cases z : (c.1 != o) = true
      · simp only [z, if_true]
        refine ⟨by show (c.2.2 ++ [_]).length + _ ≤ _; rw [List.length_append, List.length_singleton]; omega, fun y hy => ?_⟩
        rcases List.mem_append.mp hy with hy | hy
        · exact h2 y hy
        · rw [List.mem_singleton.mp hy]; exact slc_len _ _ _
      · simp only [z]
        exact ⟨by show c.2.2.length + _ ≤ _; omega, h2⟩
  · rw [if_neg q]
    exact ⟨by omega, h2⟩
theorem okS.foldl {x : Str} : ∀ {xs : List (Int × Str)} {c : StripS}, okS x c xs → okS x (xs.foldl (stripStep x) c) []
  | [], _, h => h
  | y :: ys, c, h => okS.foldl (xs := ys) (c := stripStep x c y) (okS.step h)
theorem stripEnd_ok {x : Str} {c : StripS} (h : okS x c []) : (stripEnd x c).length ≤ x.length + 1 ∧ ∀ y ∈ stripEnd x c, y.length ≤ x.length := by
  obtain ⟨h1, h2⟩ := h
  simp at h1
  unfold stripEnd
  split
  · refine ⟨by rw [List.length_append, List.length_singleton]; omega, fun y hy => ?_⟩
    rcases List.mem_append.mp hy with hy | hy
    · exact h2 y hy
    · rw [List.mem_singleton.mp hy]; exact slc_len _ _ _
  · exact ⟨by omega, h2⟩
theorem sum_le {l : List Str} {k : Nat} (h : ∀ y ∈ l, y.length ≤ k) : (l.map (·.length)).sum ≤ l.length * k := by
  induction l with
  | nil => simp
  | cons a l ih =>
    have h1 := h a (.head _)
    have h2 := ih fun y hy => h y (.tail _ hy)
    simp only [List.map_cons, List.sum_cons, List.length_cons, Nat.add_mul, Nat.one_mul]
    omega
set_option maxHeartbeats 2000000 in
theorem strip_con (O : OkW W) (x : Str) (hx : x.length ≤ 2000) : Con W false dStrip [.str x] (.str (stripS x)) 6 := by
  refine Con.intro1 (n := 2) (x := "addr") (O.defs 4 (by decide)) ?_
  intro Ar L f cd pm doc ent mu rm hB hmu
  have rm5 : Rm (frC dStrip Ar L f cd pm doc ent mu).A 5 := rm.deeper _
  by_cases hc : Txt.contains x "\"" = true
  · have es : stripS x = Txt.join "" (stripEnd x ((escL x).foldl (stripStep x) (0, none, []))) := by unfold stripS; rw [if_pos hc]
    rw [es]
    refine Run.cons (Ex.ifs (c := false) (Tr.cmp (Ev.cstr) (Ev.loc (x := "addr") rfl rfl) (by have := Cmp.snotin (prog := W.prog) (w := W.w) "\"" x; rw [hc] at this; exact this)) (fun h => by cases h) (fun _ => Exs.nil)) ?_
    refine Run.cons (Ex.assign Ev.cint (Sto.loc rfl)) ?_
    refine Run.cons (Ex.assign Ev.cnone (Sto.loc rfl)) ?_
    refine Run.own rfl rfl fun a ha => ?_
    have hok0 : okS x (0, none, []) (escL x) := ⟨by simpa using escL_len x, by simp⟩
    refine Run.cons (Ex.forGen O (ρ0 := [("start", .int 0), ("open_pos", optAV none), ("result", .own []), ("addr", .str x)]) rm5 (Ev.loc (x := "addr") rfl rfl) (Lg.fold (fun c : StripS => [("start", .int c.1), ("open_pos", optAV c.2.1), ("result", .own (c.2.2.map .str)), ("addr", .str x)]) (stripStep x) (okS x) ?_ ?_ (escL x) (0, none, []) hok0) (Sub.cons rfl (Sub.cons rfl (Sub.cons rfl (Sub.cons rfl Sub.nil)))) rfl) ?_
    · rintro ⟨st, op, res⟩ i ch r hok
      have hrl : res.length ≤ x.length := by have := hok.1; simp only [List.length_cons] at this; omega
      refine ⟨RFlat.cons rfl (RFlat.cons (by cases op <;> rfl) (RFlat.cons (by simp [AV.flat, AV.base]) (RFlat.cons rfl RFlat.nil))), Sto.loc rfl, Sto.loc rfl, ?_, hok.step⟩
      by_cases q : (ch == "\"") = true
      · cases op with
        | none =>
          have e : stripStep x (st, none, res) (i, ch) = (st, some i, res) := by unfold stripStep; rw [if_pos q]
          rw [e]
          exact ⟨_, Exs.cons (Ex.ifs (c := true) (Tr.cmp (Ev.loc rfl rfl) Ev.cstr (Cmp.seqT q)) (fun _ => Exs.cons (Ex.ifs (c := true) (Tr.cmp (A := .none) (Ev.loc (x := "open_pos") rfl rfl) Ev.cnone Cmp.is_none_none) (fun _ => Exs.cons (Ex.assign (Ev.loc (x := "pos") rfl rfl) (Sto.loc rfl)) Exs.nil) (fun h => by cases h)) Exs.nil) (fun h => by cases h)) Exs.nil,
            Sub.cons rfl (Sub.cons rfl (Sub.cons rfl (Sub.cons rfl Sub.nil)))⟩
        | some o =>
          by_cases z : (st != o) = true
          · have e : stripStep x (st, some o, res) (i, ch) = (i + 1, none, res ++ [slc x (some st) (some o)]) := by unfold stripStep; rw [if_pos q]; simp [z]
            rw [e]
            refine ⟨_, Exs.cons (Ex.ifs (c := true) (Tr.cmp (Ev.loc rfl rfl) Ev.cstr (Cmp.seqT q)) (fun _ => Exs.cons (Ex.ifs (c := false) (Tr.cmp (A := .int o) (Ev.loc (x := "open_pos") rfl rfl) Ev.cnone (Cmp.is_int_none o)) (fun h => by cases h) (fun _ =>
                Exs.cons (Ex.ifs (c := true) (Tr.cmp (B := .int o) (Ev.loc (x := "start") rfl rfl) (Ev.loc (x := "open_pos") rfl rfl) (Cmp.neT z)) (fun _ => Exs.cons (Ex.append (R := .str (slc x (some st) (some o))) rfl rfl rfl (Ev.slice_str (Ev.loc (x := "addr") rfl rfl) (Pt.some (Ev.loc (x := "start") rfl rfl)) (Pt.some (Ev.loc (R := .int o) (x := "open_pos") rfl rfl)) (by unfold sizeLine; omega)) (by rw [List.length_map]; show res.length ≤ _; unfold sizeLine; omega)) Exs.nil) (fun h => by cases h))
                (Exs.cons (Ex.assign (Ev.bin (Ev.loc (x := "pos") rfl rfl) Ev.cint (Bin.add _ _)) (Sto.loc rfl)) (Exs.cons (Ex.assign Ev.cnone (Sto.loc rfl)) Exs.nil)))) Exs.nil) (fun h => by cases h)) Exs.nil, Sub.cons rfl (Sub.cons rfl (Sub.cons ?_ (Sub.cons rfl Sub.nil)))⟩
            rw [List.map_append]; rfl
          · have z' : (st != o) = false := by simpa using z
            have e : stripStep x (st, some o, res) (i, ch) = (i + 1, none, res) := by unfold stripStep; rw [if_pos q]; simp [z']
            rw [e]
            exact ⟨_, Exs.cons (Ex.ifs (c := true) (Tr.cmp (Ev.loc rfl rfl) Ev.cstr (Cmp.seqT q)) (fun _ => Exs.cons (Ex.ifs (c := false) (Tr.cmp (A := .int o) (Ev.loc (x := "open_pos") rfl rfl) Ev.cnone (Cmp.is_int_none o)) (fun h => by cases h) (fun _ =>
                Exs.cons (Ex.ifs (c := false) (Tr.cmp (B := .int o) (Ev.loc (x := "start") rfl rfl) (Ev.loc (x := "open_pos") rfl rfl) (Cmp.neT z')) (fun h => by cases h) (fun _ => Exs.nil))
                (Exs.cons (Ex.assign (Ev.bin (Ev.loc (x := "pos") rfl rfl) Ev.cint (Bin.add _ _)) (Sto.loc rfl)) (Exs.cons (Ex.assign Ev.cnone (Sto.loc rfl)) Exs.nil)))) Exs.nil) (fun h => by cases h)) Exs.nil, Sub.cons rfl (Sub.cons rfl (Sub.cons rfl (Sub.cons rfl Sub.nil)))⟩
      · have q' : (ch == "\"") = false := by simpa using q
        have e : stripStep x (st, op, res) (i, ch) = (st, op, res) := by unfold stripStep; rw [if_neg q]
        rw [e]
        exact ⟨_, Exs.cons (Ex.ifs (c := false) (Tr.cmp (Ev.loc rfl rfl) Ev.cstr (Cmp.seqT q')) (fun h => by cases h) (fun _ => Exs.nil)) Exs.nil, Sub.cons rfl (Sub.cons rfl (Sub.cons rfl (Sub.cons rfl Sub.nil)))⟩
    · rintro ⟨st, op, res⟩ _
      exact RFlat.cons rfl (RFlat.cons (by cases op <;> rfl) (RFlat.cons (by simp [AV.flat, AV.base]) (RFlat.cons rfl RFlat.nil)))
    have hok := (hok0.foldl).1
    have hokE := hok0.foldl
    generalize (escL x).foldl (stripStep x) (0, none, []) = c at hokE ⊢
    obtain ⟨st, op, res⟩ := c
    have hE := stripEnd_ok hokE
    refine Run.cons (ρ1 := [("result", .own ((stripEnd x (st, op, res)).map .str))]) (Ex.ifs (c := decide (st < (x.length : Int))) (Tr.cmp (Ev.loc rfl rfl) (Ev.bcall (x := "len") (id := "len") (Evs.cons (Ev.loc (x := "addr") rfl rfl) Evs.nil) (Bui.len_str x (by omega)) (by decide +kernel) rfl (O.free _ (by decide))) (Cmp.lt st x.length)) (fun h => ?_) (fun h => ?_)) ?_
    · have e : stripEnd x (st, op, res) = res ++ [slc x (some st) none] := if_pos (by simpa using h)
      rw [e]
      refine Exs.weak (Exs.cons (Ex.append (R := .str (slc x (some st) none)) rfl rfl rfl (Ev.slice_str (Ev.loc (x := "addr") rfl rfl) (Pt.some (Ev.loc rfl rfl)) Pt.none (by unfold sizeLine; omega)) ?_) Exs.nil) (Sub.cons ?_ Sub.nil)
      · have := hokE.1; simp at this; rw [List.length_map]; show res.length ≤ _; unfold sizeLine; omega
      · rw [List.map_append]; rfl
    · have e : stripEnd x (st, op, res) = res := if_neg (by simpa using h)
      rw [e]
      exact Exs.weak Exs.nil (Sub.cons rfl Sub.nil)
    · refine Run.freeze rfl ha rfl rfl ?_
      refine Run.of (Exs.stop (Ex.ret (Ev.meth F.plainAttrs_str F.slot_str_join F.type_str_join Pln.str Ev.cstr (Evs.cons (Ev.loc (x := "result") rfl rfl) Evs.nil) (Bui.join "" _ (joinOk_of ?_)))) (by simp)) ?_
      · have h1 := sum_le hE.2
        have h2 := hE.1
        have h3 : (stripEnd x (st, op, res)).length * x.length ≤ 2001 * 2000 := Nat.mul_le_mul (by omega) hx
        have h4 : ("" : Str).length = 0 := by decide
        rw [h4, Nat.mul_zero, Nat.add_zero]
        exact Nat.le_trans h1 (Nat.le_trans h3 (by decide))
      · exact fun a h => .tail _ (List.mem_append_right _ h)
  · have es : stripS x = x := by unfold stripS; rw [if_neg hc]
    rw [es]
    have hc' : Txt.contains x "\"" = false := by simpa using hc
    refine Run.stop (Ex.ifs (c := true) (Tr.cmp (Ev.cstr) (Ev.loc (x := "addr") rfl rfl) (by have := Cmp.snotin (prog := W.prog) (w := W.w) "\"" x; rw [hc'] at this; exact this)) (fun _ => Exs.stop (Ex.ret (Ev.loc rfl rfl)) (by simp)) (fun h => by cases h)) ?_
    exact fun a h => .tail _ (List.mem_append_right _ h)
end SC
namespace SC
open PySem PySem.Spec PySem.Calls PyProof.Rows PySem.W
set_option maxRecDepth 100000
variable {W : Wd}
def parFrom : Int → List (Int × Str) → Option Int
  | k, [] => some k
  | k, t :: r => if t.2 == "(" then parFrom (k + 1) r else if t.2 == ")" then (if k - 1 < 0 then none else parFrom (k - 1) r) else parFrom k r
def parB (y : Str) : Bool := match parFrom 0 (escL y) with | none => false | some k => k == 0
def parS (x : Str) : Bool := parB (stripS x)
def forBody : Stmt → List Stmt
  | .For _ _ b _ _ => b
  | _ => []
set_option maxHeartbeats 2000000 in
theorem par_con (O : OkW W) (x : Str) (hx : x.length ≤ 2000) : Con W false dPar [.str x] (.bool (parS x)) 7 := by
  refine Con.intro1 (n := 3) (x := "addr") (O.defs 5 (by decide)) ?_
  intro Ar L f cd pm doc ent mu rm hB hmu
  have rm6 : Rm (frC dPar Ar L f cd pm doc ent mu).A 6 := rm.deeper _
  have hmu' : ∀ a ∈ mu, a ∈ (frC dPar Ar L f cd pm doc ent mu).mu := fun a h => .tail _ (List.mem_append_right _ h)
  refine Run.cons (Ex.assign (Ev.ucall (O.defs 4 (by decide)) rfl rfl (Evs.cons (Ev.loc (x := "addr") rfl rfl) Evs.nil) (strip_con O x hx) rm6 rfl) (Sto.loc rfl)) ?_
  refine Run.cons (Ex.assign Ev.cint (Sto.loc rfl)) ?_
  have key : ∀ (body : List Stmt), (∀ (k i : Int) (ch : Str), (ch == "(") = true → ∃ ρ1, Exs W true (frC dPar Ar L f cd pm doc ent mu) (upd (upd [("opens", .int k)] "pos" (.int i)) "ch" (.str ch)) body .next ρ1 ∧ Sub [("opens", .int (k + 1))] ρ1) →
      (∀ (k i : Int) (ch : Str), (ch == "(") = false → (ch == ")") = true → ¬ k - 1 < 0 → ∃ ρ1, Exs W true (frC dPar Ar L f cd pm doc ent mu) (upd (upd [("opens", .int k)] "pos" (.int i)) "ch" (.str ch)) body .next ρ1 ∧ Sub [("opens", .int (k - 1))] ρ1) →
      (∀ (k i : Int) (ch : Str), (ch == "(") = false → (ch == ")") = true → k - 1 < 0 → ∃ ρ1, Exs W true (frC dPar Ar L f cd pm doc ent mu) (upd (upd [("opens", .int k)] "pos" (.int i)) "ch" (.str ch)) body (.ret (.bool false)) ρ1) →
      (∀ (k i : Int) (ch : Str), (ch == "(") = false → (ch == ")") = false → ∃ ρ1, Exs W true (frC dPar Ar L f cd pm doc ent mu) (upd (upd [("opens", .int k)] "pos" (.int i)) "ch" (.str ch)) body .next ρ1 ∧ Sub [("opens", .int k)] ρ1) →
      ∀ (xs : List (Int × Str)) (k : Int), match parFrom k xs with
        | some z => Lg W (frC dPar Ar L f cd pm doc ent mu) "pos" "ch" body xs [("opens", .int k)] .next [("opens", .int z)]
        | none => ∃ ρ', Lg W (frC dPar Ar L f cd pm doc ent mu) "pos" "ch" body xs [("opens", .int k)] (.ret (.bool false)) ρ' := by
    intro body b1 b2 b3 b4 xs
    have fl : ∀ k : Int, RFlat [("opens", .int k)] := fun k => RFlat.cons rfl RFlat.nil
    induction xs with
    | nil => intro k; exact .done (fl k)
    | cons t r ih =>
      obtain ⟨i, ch⟩ := t
      intro k
      rw [parFrom]
      have go : ∀ k', (∃ ρ1, Exs W true (frC dPar Ar L f cd pm doc ent mu) (upd (upd [("opens", .int k)] "pos" (.int i)) "ch" (.str ch)) body .next ρ1 ∧ Sub [("opens", .int k')] ρ1) → (match parFrom k' r with
        | some z => Lg W (frC dPar Ar L f cd pm doc ent mu) "pos" "ch" body ((i, ch) :: r) [("opens", .int k)] .next [("opens", .int z)]
        | none => ∃ ρ', Lg W (frC dPar Ar L f cd pm doc ent mu) "pos" "ch" body ((i, ch) :: r) [("opens", .int k)] (.ret (.bool false)) ρ') := fun k' ⟨ρ1, h1, h2⟩ => by
        have := ih k'
        cases hp : parFrom k' r with
        | some z => rw [hp] at this; exact .step (fl k) (Sto.loc rfl) (Sto.loc rfl) h1 h2 this
        | none => rw [hp] at this; obtain ⟨ρ', h⟩ := this; exact ⟨ρ', .step (fl k) (Sto.loc rfl) (Sto.loc rfl) h1 h2 h⟩
      by_cases q1 : (ch == "(") = true
      · simp only [q1, if_true]; exact go _ (b1 k i ch q1)
      · have q1' : (ch == "(") = false := by simpa using q1
        simp only [q1', Bool.false_eq_true, if_false]
        by_cases q2 : (ch == ")") = true
        · simp only [q2, if_true]
          by_cases q3 : k - 1 < 0
          · simp only [q3, if_true]
            obtain ⟨ρ1, h⟩ := b3 k i ch q1' q2 q3
            exact ⟨ρ1, .ret (fl k) (Sto.loc rfl) (Sto.loc rfl) h⟩
          · simp only [q3, if_false]; exact go _ (b2 k i ch q1' q2 q3)
        · have q2' : (ch == ")") = false := by simpa using q2
          simp only [q2', Bool.false_eq_true, if_false]
          exact go _ (b4 k i ch q1' q2')
  have kb := key (forBody (nth dPar.body 2)) (fun k i ch q1 => ?b1) (fun k i ch q1 q2 q3 => ?b2) (fun k i ch q1 q2 q3 => ?b3) (fun k i ch q1 q2 => ?b4) (escL (stripS x)) 0
  cases hp : parFrom 0 (escL (stripS x)) with
  | some z =>
    rw [hp] at kb
    have e : parS x = (z == 0) := by unfold parS parB; rw [hp]
    rw [e]
    refine Run.cons (Ex.forGen O (ρ0 := [("opens", .int 0)]) (rm6.le (by omega)) (Ev.loc (x := "addr") rfl rfl) kb (Sub.cons rfl Sub.nil) rfl) ?_
    exact Run.of (Exs.stop (Ex.ret (Ev.cmp (Ev.loc rfl rfl) Ev.cint (Cmp.eq z 0))) (by simp)) hmu'
  | none =>
    rw [hp] at kb
    obtain ⟨ρ', kb⟩ := kb
    have e : parS x = false := by unfold parS parB; rw [hp]
    rw [e]
    exact Run.stop (Ex.forGen O (ρ0 := [("opens", .int 0)]) (rm6.le (by omega)) (Ev.loc (x := "addr") rfl rfl) kb (Sub.cons rfl Sub.nil) rfl) hmu'
  case b1 =>
    exact ⟨_, Exs.cons (Ex.ifs (c := true) (Tr.cmp (Ev.loc rfl rfl) Ev.cstr (Cmp.seqT q1)) (fun _ => Exs.cons (Ex.aug (x := "opens") rfl rfl rfl Ev.cint (Inp.add k 1)) Exs.nil) (fun h => by cases h)) Exs.nil, Sub.cons rfl Sub.nil⟩
  case b2 =>
    exact ⟨_, Exs.cons (Ex.ifs (c := false) (Tr.cmp (Ev.loc rfl rfl) Ev.cstr (Cmp.seqT q1)) (fun h => by cases h) (fun _ => Exs.cons (Ex.ifs (c := true) (Tr.cmp (Ev.loc rfl rfl) Ev.cstr (Cmp.seqT q2)) (fun _ => Exs.cons (Ex.aug (x := "opens") rfl rfl rfl Ev.cint (Inp.sub k 1))
      (Exs.cons (Ex.ifs (c := false) (Tr.cmp (Ev.loc (x := "opens") rfl rfl) Ev.cint (Cmp.ltT (by simpa using q3))) (fun h => by cases h) (fun _ => Exs.nil)) Exs.nil)) (fun h => by cases h)) Exs.nil)) Exs.nil, Sub.cons rfl Sub.nil⟩
  case b3 =>
    exact ⟨_, Exs.stop (Ex.ifs (c := false) (Tr.cmp (Ev.loc rfl rfl) Ev.cstr (Cmp.seqT q1)) (fun h => by cases h) (fun _ => Exs.stop (Ex.ifs (c := true) (Tr.cmp (Ev.loc rfl rfl) Ev.cstr (Cmp.seqT q2)) (fun _ => Exs.cons (Ex.aug (x := "opens") rfl rfl rfl Ev.cint (Inp.sub k 1))
      (Exs.stop (Ex.ifs (c := true) (Tr.cmp (Ev.loc (x := "opens") rfl rfl) Ev.cint (Cmp.ltT (by simpa using q3))) (fun _ => Exs.stop (Ex.ret Ev.cbool) (by simp)) (fun h => by cases h)) (by simp))) (fun h => by cases h)) (by simp))) (by simp)⟩
  case b4 =>
    exact ⟨_, Exs.cons (Ex.ifs (c := false) (Tr.cmp (Ev.loc rfl rfl) Ev.cstr (Cmp.seqT q1)) (fun h => by cases h) (fun _ => Exs.cons (Ex.ifs (c := false) (Tr.cmp (Ev.loc rfl rfl) Ev.cstr (Cmp.seqT q2)) (fun h => by cases h) (fun _ => Exs.nil)) Exs.nil)) Exs.nil, Sub.cons rfl Sub.nil⟩
end SC
namespace SC
open PySem PySem.Spec PySem.Calls PyProof.Rows PySem.W
set_option maxRecDepth 100000
variable {W : Wd}
def badS : Str := "('', '')"
def preV (v : Str) : Str := if parS v then v else badS
set_option maxHeartbeats 2000000 in
theorem pre_con (O : OkW W) (fs : List Str) (hf : fs.length ≤ 1000) (hx : ∀ v ∈ fs, v.length ≤ 2000) : Con W false dPre [.list (fs.map .str)] (.list ((fs.map preV).map .str)) 8 := by
  refine Con.intro1 (n := 4) (x := "email_header_fields") (O.defs 6 (by decide)) ?_
  intro Ar L f cd pm doc ent mu rm hB hmu
  have rm7 : Rm (frC dPre Ar L f cd pm doc ent mu).A 7 := rm.deeper _
  refine Run.own rfl rfl fun a ha => ?_
  have ef : ∀ (xs b : List Str), xs.foldl (fun b v => b ++ [preV v]) b = b ++ xs.map preV := by
    intro xs
    induction xs with
    | nil => intro b; simp
    | cons x xs ih => intro b; rw [List.foldl_cons, ih]; simp
  refine Run.cons (Ex.for (Src.list (Ev.loc (x := "email_header_fields") rfl rfl)) (Lp.fold AV.str (fun b : List Str => [("accepted_values", .own (b.map .str))]) (fun b v => b ++ [preV v]) (fun b xs => b.length + xs.length ≤ 1000 ∧ ∀ v ∈ xs, v.length ≤ 2000) ?_ fs [] ⟨by simpa using hf, hx⟩) (Sub.cons rfl Sub.nil)) ?_
  · rintro b v r ⟨hb, hv⟩
    simp only [List.length_cons] at hb
    refine ⟨fun I => Sto.loc rfl, ⟨upd (upd (upd [("accepted_values", .own (b.map .str))] "v" (.str v)) "v" (.str (preV v))) "accepted_values" (.own (b.map .str ++ [.str (preV v)])), fun I => ?_, ?_⟩, ?_, fun u hu => hv u (.tail _ hu)⟩
    · refine Exs.cons (ρ1 := upd (upd [("accepted_values", .own (b.map .str))] "v" (.str v)) "v" (.str (preV v))) (Ex.ifs (c := !parS v) (Tr.not (Tr.val (Ev.ucall (O.defs 5 (by decide)) rfl rfl (Evs.cons (Ev.loc (x := "v") rfl rfl) Evs.nil) (par_con O v (hv v (.head _))) rm7 rfl))) (fun h => ?_) (fun h => ?_)) (Exs.cons (Ex.append (R := .str (preV v)) rfl rfl rfl (Ev.loc (x := "v") rfl rfl) ?_) Exs.nil)
      · have e : preV v = badS := by unfold preV; rw [if_neg (by simpa using h)]
        rw [e]
        exact Exs.cons (Ex.assign Ev.cstr (Sto.loc rfl)) Exs.nil
      · have e : preV v = v := by unfold preV; rw [if_pos (by simpa using h)]
        rw [e]
        exact Exs.weak Exs.nil (Sub.cons rfl (Sub.cons rfl (Sub.cons rfl Sub.nil)))
      · rw [List.length_map]; unfold sizeLine; omega
    · refine Sub.cons ?_ Sub.nil
      rw [List.map_append]; rfl
    · rw [List.length_append, List.length_singleton]; omega
  · rw [ef fs []]
    refine Run.freeze rfl ha rfl rfl ?_
    refine Run.of (Exs.stop (Ex.ret (Ev.loc rfl rfl)) (by simp)) ?_
    exact fun a h => .tail _ (List.mem_append_right _ h)
end SC
namespace SC
open PySem PySem.Spec PySem.Calls PyProof.Rows PySem.W
set_option maxRecDepth 100000
theorem plainAttrs_pat : PlainAttrs "re.Pattern" :=
  ⟨⟨"object.__getattribute__", by rw [typeLookup_type, builtinLookup_eq_fast]; kernel_rfl, by decide +kernel⟩, by rw [typeLookup_type, builtinLookup_eq_fast]; kernel_rfl⟩
theorem slot_pat_sub : Slot "re.Pattern" "sub" "re.Pattern.sub" :=
  .of (owner := "re.Pattern") (n := "sub") (by rw [typeLookup_type, builtinLookup_eq_fast]; kernel_rfl) (by decide +kernel) (by decide +kernel) (by decide +kernel)
    (by first | exact .inl (by decide +kernel) | exact .inr (by decide +kernel)) (by rw [isSubtype_type]; kernel_rfl)
theorem type_pat_sub : typeOf (.builtin "re.Pattern.sub") = pure (.type "method_descriptor") := by show builtinType _ = _; rw [builtinType_eq_fast]; kernel_rfl
theorem entry_pat_sub : entryFor table "re.Pattern.sub" = some Builtin.«re.Pattern.sub» := entryFor_of_tree (by kernel_rfl)
theorem entry_pat_loop : entryFor table "re.Pattern.sub.loop" = some Builtin.«re.Pattern.sub.loop» := entryFor_of_tree (by kernel_rfl)
theorem owner_pat : Manifest.owners.lookup (String.ofList ['n', 'r', 'e', 't', 't', 'a', 'P', '.', 'e', 'r'].reverse) = some Manifest.sig_re_Pattern := by kernel_rfl
theorem args_pat_sub_3 (a b c : Value) : argsOk "re.Pattern.sub" ⟨[a, b, c], []⟩ := by
  unfold argsOk; rw [signature?_of (id := "re.Pattern.sub") (n := ['b', 'u', 's']) (o := ['n', 'r', 'e', 't', 't', 'a', 'P', '.', 'e', 'r']) (by kernel_rfl) owner_pat]; kernel_rfl
end SC
namespace SC
open PySem PySem.Spec PySem.Calls PyProof.Rows PySem.W
set_option maxRecDepth 100000
namespace Rx
open PySem.Sre
def Ends (n : Nat) (m m' : M) : Prop := m'.outcome.isSome = true ∧ ∃ k, k ≤ n ∧ m.runFor k = m'
theorem runFor_done {m : M} (h : m.outcome.isSome = true) : ∀ n, m.runFor n = m
  | 0 => rfl
  | n + 1 => by rw [M.runFor, if_pos h]
theorem runFor_add : ∀ (a b : Nat) (m : M), m.runFor (a + b) = (m.runFor a).runFor b
  | 0, b, m => by rw [Nat.zero_add]; rfl
  | a + 1, b, m => by
    rw [show a + 1 + b = (a + b) + 1 by omega, M.runFor, M.runFor]
    by_cases h : m.outcome.isSome = true
    · rw [if_pos h, if_pos h, runFor_done h]
    · rw [if_neg h, if_neg h]; exact runFor_add a b m.step
theorem Ends.step {n : Nat} {m m' : M} (h : m.outcome.isSome = false) (e : Ends n m.step m') : Ends (n + 1) m m' := by
  obtain ⟨h1, k, hn, h2⟩ := e
  exact ⟨h1, k + 1, by omega, by rw [M.runFor, if_neg (by rw [h]; decide)]; exact h2⟩
theorem Ends.to {n : Nat} {m m1 m' : M} (hs : m.step = m1) (e : Ends n m1 m') (h : m.outcome.isSome = false := by rfl) : Ends (n + 1) m m' := .step h (hs ▸ e)
theorem Ends.le {n n' : Nat} {m m' : M} (e : Ends n m m') (h : n ≤ n') : Ends n' m m' := by
  obtain ⟨h1, k, hn, h2⟩ := e
  exact ⟨h1, k, by omega, h2⟩
theorem Ends.done {n : Nat} {m : M} (h : m.outcome.isSome = true := by rfl) : Ends n m m := ⟨h, 0, Nat.zero_le _, rfl⟩
theorem reDrive_ends {M' : Model} {A : Around} {E : Value → Shared → Prop} {s : Shared} {Q : M → Shared → Prop} {m' : M} (h1 : m'.outcome.isSome = true) (hQ : Q m' s) :
    ∀ (k : Nat) (m : M) (turns : Nat), k < turns → m.runFor k = m' → wpAny M' A (Builtin.Re.reDrive turns m) Q E s := by
  intro k
  induction k using Nat.strongRecOn with
  | ind k ih =>
    intro m turns ht hk
    obtain ⟨t, rfl⟩ : ∃ t, turns = t + 1 := ⟨turns - 1, by omega⟩
    rw [Builtin.Re.reDrive]
    have e4 : Builtin.Re.reTurnSteps = 4 := rfl
    rw [e4]
    by_cases h : (m.runFor 4).outcome.isSome = true
    · simp only [h, if_true]
      have : m.runFor 4 = m' := by
        by_cases hle : k ≤ 4
        · have := runFor_add k (4 - k) m
          rw [show k + (4 - k) = 4 by omega, hk, runFor_done h1] at this; exact this
        · have := runFor_add 4 (k - 4) m
          rw [show 4 + (k - 4) = k by omega, hk, runFor_done h] at this; exact this.symm
      rw [this]; exact wpAny_pure hQ
    · have h' : (m.runFor 4).outcome.isSome = false := by simpa using h
      simp only [h', Bool.false_eq_true, if_false]
      have hlt : 4 < k := by
        rcases Nat.lt_or_ge 4 k with q | q
        · exact q
        · have := runFor_add k (4 - k) m
          rw [show k + (4 - k) = 4 by omega, hk, runFor_done h1] at this
          rw [this, h1] at h'; cases h'
      refine wpAny_bind (wpAny_rule (ih (k - 4) (by omega) (m.runFor 4) t (by omega) ?_))
      have := runFor_add 4 (k - 4) m
      rw [show 4 + (k - 4) = k by omega, hk] at this; exact this.symm
theorem forIn_rules {M' : Model} {A : Around} {E : Value → Shared → Prop} {s : Shared} {Q : PUnit → Shared → Prop} (c : Nat → Bool) (nm : Nat → String) (hQ : Q ⟨⟩ s) : ∀ l : List Nat,
    wpAny M' A (forIn l PUnit.unit fun i _ => if c i = true then (do rule (nm i); pure (ForInStep.yield PUnit.unit)) else pure (ForInStep.yield PUnit.unit)) Q E s
  | [] => by rw [List.forIn_nil]; exact wpAny_pure hQ
  | i :: l => by
    rw [List.forIn_cons]
    by_cases h : c i = true
    · rw [if_pos h]
      exact wpAny_bind (wpAny_bind (wpAny_rule (wpAny_pure (forIn_rules c nm hQ l))))
    · rw [if_neg h]
      exact wpAny_bind (wpAny_pure (forIn_rules c nm hQ l))
theorem runToEnd {M' : Model} {A : Around} {E : Value → Shared → Prop} {s : Shared} {Q : Option M → Shared → Prop} {m m' : M} {n : Nat} (e : Ends n m m') (hn : n < 2 ^ 64)
    (h : (m'.outcome = some .matched ∧ Q (some m') s) ∨ (m'.outcome = some .failed ∧ Q none s)) : wpAny M' A (Builtin.Re.reRunToEnd m) Q E s := by
  obtain ⟨h1, k, hlt, hk⟩ := e
  unfold Builtin.Re.reRunToEnd
  refine wpAny_bind (wpAny_mono (reDrive_ends (Q := fun m s' => m = m' ∧ s' = s) h1 ⟨rfl, rfl⟩ k m _ (by omega) hk) (fun m1 s1 hm => ?_) fun _ _ x => x)
  obtain ⟨rfl, rfl⟩ := hm
  refine wpAny_bind (forIn_rules (fun i => m1.seen.has i) (fun i => names.getD i "") ?_ _)
  rcases h with ⟨h, q⟩ | ⟨h, q⟩
  · rw [h]; exact wpAny_pure q
  · rw [h]; exact wpAny_pure q
def c1 : Array Nat := #[14, 4, 0, 1, 1, 6, 1, 16, 46, 1]
def S1 (t : Array Nat) (st pc pos hd : Nat) (om : Bool) (fr : List Sre.Frame) (w : Nat) (ans : Option Bool) (se : Sre.Seen) (out : Option Sre.Outcome) : M :=
  { code := c1, text := t, lim := t.size, start := st, lastStart := t.size, pc := pc, pos := pos, handed := hd, outermost := om, marks := #[], frames := fr, weight := w, answer := ans, seen := se, outcome := out }
def F1 (p : Nat) (om : Bool) : Sre.Frame := { wait := .nextStart, pc := 5, pos := p, outermost := om }
variable {t : Array Nat} {st pos hd w : Nat} {om : Bool} {fr : List Sre.Frame} {se : Sre.Seen}
theorem s1_at : (S1 t st 5 pos hd om fr w none se none).step = if (pos == 0 || t.getD (pos - 1) 0 == 10) = true then S1 t st 7 pos hd om fr w none ((se.add 6).add 44) none else S1 t st 5 pos hd om fr w (some false) ((se.add 6).add 44) none := by
  rfl
theorem s1_lit : (S1 t st 7 pos hd om fr w none se none).step = if pos ≥ t.size then S1 t st 7 pos hd om fr w (some false) (se.add 16) none else if (t.getD pos 0 == 46) = true then S1 t st 9 (pos + 1) hd om fr w none (se.add 16) none else S1 t st 7 pos hd om fr w (some false) (se.add 16) none := by
  by_cases h : pos ≥ t.size
  · rw [if_pos h]; show (if pos ≥ t.size then _ else _) = _; rw [if_pos h]; rfl
  · rw [if_neg h]; show (if pos ≥ t.size then _ else _) = _; rw [if_neg h]
    by_cases q : (t.getD pos 0 == 46) = true
    · rw [if_pos q]; show (match (Except.ok (t.getD pos 0 == 46, se.add 16) : Except String (Bool × Sre.Seen)) with | .error why => _ | .ok (false, seen) => _ | .ok (true, seen) => _) = _; rw [q]; rfl
    · have q' : (t.getD pos 0 == 46) = false := by simpa using q
      rw [if_neg q]; show (match (Except.ok (t.getD pos 0 == 46, se.add 16) : Except String (Bool × Sre.Seen)) with | .error why => _ | .ok (false, seen) => _ | .ok (true, seen) => _) = _; rw [q']; rfl
theorem s1_suc : (S1 t st 9 pos hd om fr w none se none).step = S1 t st 9 pos pos om fr w (some true) (se.add 1) none := by
  cases om <;> rfl
theorem s1_yes {p : Nat} {o : Bool} : (S1 t st 9 pos hd om [F1 p o] 1 (some true) se none).step = S1 t st 5 p hd o [] 0 (some true) se none := by
  rfl
theorem s1_end : (S1 t st 5 pos hd om [] 0 (some true) se none).step = S1 t st 5 pos hd om [] 0 (some true) se (some .matched) := by
  rfl
theorem s1_fail : (S1 t st 5 pos hd om [] 0 (some false) se none).step = S1 t st 5 pos hd om [] 0 (some false) se (some .failed) := by
  rfl
theorem s1_next {p pc : Nat} {o : Bool} : (S1 t st pc pos hd om [F1 p o] 1 (some false) se none).step = if p < t.size then S1 t (p + 1) 5 (p + 1) (p + 1) false [F1 (p + 1) false] 1 none se none else S1 t st 5 p hd o [] 0 (some false) se none := by
  by_cases h : p < t.size
  · rw [if_pos h]; show (if p < t.size then _ else _) = _; rw [if_pos h]; rfl
  · rw [if_neg h]; show (if p < t.size then _ else _) = _; rw [if_neg h]; rfl
end Rx
end SC
namespace SC
open PySem PySem.Spec PySem.Calls PyProof.Rows PySem.W
set_option maxRecDepth 100000
namespace Rx
open PySem.Builtin.Re
structure IsPat (h : Heap) (a : Addr) (code : Array Nat) : Prop where
  ex : ∃ o v0 v1 v3 v4 cd oc items n, h.get? a = some o ∧ o.cls = .type "re.Pattern" ∧ o.dict = none ∧ o.data = .fields #[v0, v1, .int 0 0, v3, v4, .ref cd, .int 0 0] ∧ h.get? cd = some oc ∧ oc.data = .seq items n ∧ (items.map reRawOf).map (·.toNat) = code
theorem IsPat.kp {h h' : Heap} {a : Addr} {code : Array Nat} (x : IsPat h a code) (k : Kp h h') : IsPat h' a code := by
  obtain ⟨o, v0, v1, v3, v4, cd, oc, items, n, h1, h2, h3, h4, h5, h6⟩ := x.ex
  exact ⟨o, v0, v1, v3, v4, cd, oc, items, n, k _ _ h1, h2, h3, h4, k _ _ h5, h6⟩
section
variable {M : Model} {A : Around} {E : Value → Shared → Prop} {s : Shared} {a : Addr} {code : Array Nat} {x : Str} {tk : Tok}
theorem wholeTarget {Q : ReTarget → Shared → Prop} (hp : IsPat s.heap a code) (h : Q ⟨.ref a, .str x tk, code, x.cps, 0, 0, 0, x.cps.size⟩ s) : wpAny M A (reWholeTarget (.ref a) (.str x tk)) Q E s := by
  obtain ⟨o, v0, v1, v3, v4, cd, oc, items, n, h1, h2, h3, h4, h5, h6, h7⟩ := hp.ex
  unfold reWholeTarget
  refine wpAny_bind (wpAny_fieldsOf h1 h4 ?_)
  refine wpAny_bind (wpAny_of_eq (a := (x.cps, 0)) rfl ?_)
  show wpAny M A (reRawItems (.ref cd) >>= fun c => pure (⟨.ref a, .str x tk, c.map (·.toNat), x.cps, 0, 0, 0, x.cps.size⟩ : ReTarget)) Q E s
  unfold reRawItems
  refine wpAny_bind (wpAny_bind (wpAny_seqItems h5 h6 (wpAny_pure ?_)))
  show wpAny M A (pure (⟨.ref a, .str x tk, (items.map reRawOf).map (·.toNat), x.cps, 0, 0, 0, x.cps.size⟩ : ReTarget)) Q E s
  rw [h7]; exact wpAny_pure h
end
structure Finds (code t : Array Nat) (nx : Nat → Option (Nat × Nat)) : Prop where
  yes : ∀ p a b, p ≤ t.size → nx p = some (a, b) → p ≤ a ∧ a < b ∧ b ≤ t.size ∧ ∃ n m', n < 2 ^ 64 ∧ Ends n (Sre.forSearch code t 0 p t.size false) m' ∧ m'.outcome = some .matched ∧ m'.start = a ∧ m'.handed = b
  no : ∀ p, p ≤ t.size → nx p = none → ∃ n m', n < 2 ^ 64 ∧ Ends n (Sre.forSearch code t 0 p t.size false) m' ∧ m'.outcome = some .failed
def cut (t : Array Nat) (a b : Nat) : Str := ⟨t.extract a b⟩
def subP (t : Array Nat) (nx : Nat → Option (Nat × Nat)) (rep : Str) : Nat → Nat → List Str
  | 0, _ => []
  | f + 1, p => match nx p with
    | none => if p < t.size then [cut t p t.size] else []
    | some (a, b) => (if p < a then [cut t p a] else []) ++ rep :: subP t nx rep f b
section
variable {M : Model} {A : Around} {E : Value → Shared → Prop} {s : Shared}
theorem strs_nil {L : List Str} (h : StrsAre [] L) : L = [] := by cases h; rfl
theorem pushD {D : Addr} {vs : List Value} {k : Nat} {v : Value} {Q : Unit → Shared → Prop} (hD : s.heap.get? D = some (lstO vs k)) (hz : vs.length ≤ 100000)
    (h : ∀ h', h'.get? D = some (lstO (vs ++ [v]) (k + 1)) → Heap.SameBut D s.heap h' → Q () { s with heap := h' }) : wpAny M A (updateSeq D (·.push v)) Q E s := by
  refine wpAny_updateSeq hD rfl ?_ (by rw [List.size_toArray]; unfold sizeLine; omega) (by simp; unfold sizeLine; omega)
  refine h _ ?_ (Heap.SameBut.update ..)
  rw [Heap.get?_update_self _ hD (by rw [Obj.mapSeq_push_plain]; rfl), Obj.mapSeq_push_plain]
  simp
theorem ite_jp2 {α β γ : Type} {c : Prop} [Decidable c] {m1 : Sem α} {m2 : α → Sem β} {jp : β → Sem γ} {u : β} {Q : γ → Shared → Prop} (P : Shared → Prop)
    (ht : c → wpAny M A m1 (fun v s1 => wpAny M A (m2 v) (fun r s2 => r = u ∧ P s2) E s1) E s) (hf : ¬ c → P s) (hj : ∀ s', P s' → wpAny M A (jp u) Q E s') : wpAny M A (if c then (m1 >>= fun v => m2 v >>= jp) else jp u) Q E s := by
  by_cases h : c
  · rw [if_pos h]
    refine wpAny_bind (wpAny_mono (ht h) (fun v s1 h1 => wpAny_bind (wpAny_mono h1 (fun r s2 h2 => ?_) fun _ _ x => x)) fun _ _ x => x)
    obtain ⟨rfl, h2⟩ := h2
    exact hj _ h2
  · rw [if_neg h]; exact hj _ (hf h)
theorem wpAny_mkStr' {x : Str} {Q : Value → Shared → Prop} (hz : x.length ≤ sizeLine) (h : Q (.str x s.toks) { s with toks := s.toks + 1 }) : wpAny M A (mkStr x) Q E s := wpAny_mkStr h hz
end
section
variable {prog : Program} {w : World} {A : Around} {R : Result → Shared → Prop}
def lArgs (a : Addr) (x : Str) (tk : Tok) (rep : Str) (rt : Tok) (n : Int) (p : Nat) (D : Addr) : Args := ⟨[.ref a, .str x tk, .str rep rt, rawInt 0, rawInt 0, rawInt n, rawInt p, rawInt p, .bool false, .ref D, .bool false], []⟩
theorem sub_loop {h0 : Heap} {a : Addr} {x : Str} {tk : Tok} {rep : Str} {rt : Tok} {code : Array Nat} {nx : Nat → Option (Nat × Nat)} (F : Finds code x.cps nx) (hx : x.length ≤ 2000) (hr : rep.length ≤ 10) {D : Addr} (hp : IsPat h0 a code) (hD0 : h0.get? D = none) :
    ∀ (f p : Nat) (n : Int) (s : Shared) (vs : List Value) (ps : List Str) (k : Nat), x.cps.size < p + f → p ≤ x.cps.size → Kp h0 s.heap → s.heap.get? D = some (lstO vs k) → StrsAre vs ps → ps.length ≤ 2 * p → (ps.map (·.length)).sum ≤ 11 * p →
      (∀ (r : Str) (t' : Tok) (s' : Shared), r = Txt.join "" (ps ++ subP x.cps nx rep f p) → Kp h0 s'.heap → s'.drawn = s.drawn → s'.os = s.os → s'.gens = s.gens → R (.ok (.ret (.str r t'))) s') →
      codeAny (model prog w) A (.builtin "re.Pattern.sub.loop" (lArgs a x tk rep rt n p D)) R s
  | 0, p, n, s, vs, ps, k, hf, h1, _, _, _, _, _, _ => by omega
  | f + 1, p, n, s, vs, ps, k, hf, h1, hk, hD, hvs, hpl, hps, hR => by
    have hxs : x.cps.size ≤ 2000 := hx
    have cutL : ∀ a b, (cut x.cps a b).length ≤ b - a := fun a b => by show (Array.extract _ _ _).size ≤ _; simp; omega
    have keepD : ∀ {h h' : Heap}, Kp h0 h → Heap.SameBut D h h' → Kp h0 h' := fun {h h'} k sb b o e => (sb.2 b (fun q => by rw [q, hD0] at e; cases e)).trans (k b o e)
    have hvl : vs.length = ps.length := by
      obtain ⟨l, rfl, e⟩ := strVals hvs
      rw [← e]; simp [strValues]
    have snoc : ∀ {vs : List Value} {ps : List Str} {y : Str} {t : Tok}, StrsAre vs ps → StrsAre (vs ++ [.str y t]) (ps ++ [y]) := fun {vs ps y t} h => by
      induction h with
      | nil => exact .cons y t .nil
      | cons z u _ ih => exact .cons z u ih
    refine codeAny_builtin entry_pat_loop ?_
    unfold Builtin.«re.Pattern.sub.loop» lArgs
    refine wpAny_bind (wholeTarget (hp.kp hk) ?_)
    show wpAny _ _ (reNextFound ⟨.ref a, .str x tk, code, x.cps, 0, 0, 0, x.cps.size⟩ p false >>= _) _ _ s
    cases hn : nx p with
    | none =>
      obtain ⟨nn, m', hlt, he, ho⟩ := F.no p h1 hn
      refine wpAny_bind (runToEnd he hlt (.inr ⟨ho, ?_⟩))
      dsimp only
      refine ite_jp2 (u := ()) (fun s' => ∃ vs' k', s'.heap.get? D = some (lstO vs' k') ∧ StrsAre vs' (ps ++ subP x.cps nx rep (f + 1) p) ∧ Kp h0 s'.heap ∧ s'.drawn = s.drawn ∧ s'.os = s.os ∧ s'.gens = s.gens) (fun hlt => ?_) (fun hlt => ?_) (fun s' hs' => ?_)
      · refine wpAny_mkStr' (x := cut x.cps p x.cps.size) ?_ (pushD hD (by omega) fun h' e sb => ⟨rfl, _, _, e, ?_, keepD hk sb, rfl, rfl, rfl⟩)
        · have := cutL p x.cps.size; unfold sizeLine; omega
        · have e1 : subP x.cps nx rep (f + 1) p = [cut x.cps p x.cps.size] := by rw [subP, hn]; exact if_pos hlt
          rw [e1]; exact snoc hvs
      · have e1 : subP x.cps nx rep (f + 1) p = [] := by rw [subP, hn]; exact if_neg hlt
        rw [e1, List.append_nil]
        exact ⟨vs, k, hD, hvs, hk, rfl, rfl, rfl⟩
      · obtain ⟨vs', k', e1, e2, e3, e4, e5, e6⟩ := hs'
        have hall : ps ++ subP x.cps nx rep (f + 1) p = ps ++ (if p < x.cps.size then [cut x.cps p x.cps.size] else []) := by rw [subP, hn]
        have hbound : ((ps ++ subP x.cps nx rep (f + 1) p).map (·.length)).sum ≤ 30000 := by
          rw [hall, List.map_append, List.sum_append]
          have := cutL p x.cps.size
          split <;> simp <;> omega
        refine wpAny_bind (wpAny_mkStr' (x := cut x.cps 0 0) (by show (Array.extract _ _ _).size ≤ _; simp) ?_)
        refine wpAny_bind (wpAny_seqItems e1 rfl ?_)
        by_cases hemp : vs' = []
        · subst hemp
          have hps' : ps ++ subP x.cps nx rep (f + 1) p = [] := strs_nil e2
          show wpAny _ _ (pure (Value.str (cut x.cps 0 0) s'.toks) >>= fun text => ret text) _ _ _
          refine wpAny_bind (wpAny_pure (wpAny_pure ?_))
          refine hR _ _ _ ?_ e3 e4 e5 e6
          rw [hps']
          show (⟨x.cps.extract 0 0⟩ : Str) = ⟨#[]⟩
          simp
        · have hne : ((some vs'.toArray).getD #[]).isEmpty = false := by
            cases vs' with
            | nil => exact absurd rfl hemp
            | cons => rfl
          have hne' : ¬ ((some vs'.toArray).getD #[]).isEmpty = true := by rw [hne]; decide
          rw [if_neg hne']
          obtain ⟨l, rfl, e7⟩ := strVals e2
          have hempty : cut x.cps 0 0 = "" := by show (⟨x.cps.extract 0 0⟩ : Str) = ⟨#[]⟩; simp
          show wpAny _ _ (call (.builtin "str.join") [Value.str (cut x.cps 0 0) s'.toks, .ref D] >>= fun text => ret text) _ _ _
          rw [hempty]
          refine wpAny_bind (PySem.SC.join (isL (n := k') e1) e7 (joinOk_of (by rw [show ("" : Str).length = 0 by decide]; omega)) fun t' kk => wpAny_pure ?_)
          exact hR _ _ _ rfl e3 e4 e5 e6
    | some ab =>
      obtain ⟨pa, pb⟩ := ab
      obtain ⟨g1, g2, g3, nn, m', hlt, he, ho, hs1, hs2⟩ := F.yes p pa pb h1 hn
      subst hs1 hs2
      refine wpAny_bind (runToEnd he hlt (.inl ⟨ho, ?_⟩))
      dsimp only
      refine ite_jp2 (u := ()) (fun s' => ∃ vs' k', s'.heap.get? D = some (lstO vs' k') ∧ StrsAre vs' (ps ++ (if p < m'.start then [cut x.cps p m'.start] else [])) ∧ Kp h0 s'.heap ∧ s'.drawn = s.drawn ∧ s'.os = s.os ∧ s'.gens = s.gens) (fun hlt => ?_) (fun hlt => ?_) (fun s' hs' => ?_)
      · refine wpAny_mkStr' (x := cut x.cps p m'.start) ?_ (pushD hD (by omega) fun h' e sb => ⟨rfl, _, _, e, ?_, keepD hk sb, rfl, rfl, rfl⟩)
        · have := cutL p m'.start; unfold sizeLine; omega
        · rw [if_pos (show p < m'.start from hlt)]; exact snoc hvs
      · rw [if_neg (show ¬ p < m'.start from hlt), List.append_nil]
        exact ⟨vs, k, hD, hvs, hk, rfl, rfl, rfl⟩
      · obtain ⟨vs', k', e1, e2, e3, e4, e5, e6⟩ := hs'
        have hvl' : vs'.length ≤ 2 * p + 1 := by
          obtain ⟨l, rfl, e⟩ := strVals e2
          have := congrArg List.length e
          rw [List.length_map, List.length_append] at this
          have h3 : (if p < m'.start then [cut x.cps p m'.start] else []).length ≤ 1 := by split <;> simp
          simp [strValues]; omega
        show wpAny _ _ (updateSeq D (fun y => y.push (Value.str rep rt)) >>= fun _ => again (.builtin "re.Pattern.sub.loop" ⟨[.ref a, .str x tk, .str rep rt, rawInt 0, rawInt 0, rawInt (n + 1), rawInt m'.handed, rawInt m'.handed, .bool (m'.handed == m'.start), .ref D, .bool false], []⟩)) _ _ _
        have hst : (m'.handed == m'.start) = false := beq_eq_false_iff_ne.mpr (by omega)
        rw [hst]
        refine wpAny_bind (pushD e1 (by omega) fun h' e sb => wpAny_pure ⟨Code.quiet_builtin _ (by decide +kernel), ?_⟩)
        have hall : ps ++ subP x.cps nx rep (f + 1) p = (ps ++ (if p < m'.start then [cut x.cps p m'.start] else []) ++ [rep]) ++ subP x.cps nx rep f m'.handed := by rw [subP, hn]; simp
        refine sub_loop F hx hr hp hD0 f m'.handed (n + 1) _ _ (ps ++ (if p < m'.start then [cut x.cps p m'.start] else []) ++ [rep]) _ (by omega) g3 (keepD e3 sb) e (snoc e2) ?_ ?_ ?_
        · have h3 : (if p < m'.start then [cut x.cps p m'.start] else []).length ≤ 1 := by split <;> simp
          simp only [List.length_append, List.length_singleton]
          by_cases hq : p < m'.start
          · omega
          · rw [if_neg hq] at h3 ⊢; simp; omega
        · have h3 := cutL p m'.start
          simp only [List.map_append, List.sum_append, List.map_cons, List.map_nil, List.sum_cons, List.sum_nil]
          by_cases hq : p < m'.start
          · rw [if_pos hq]; simp; omega
          · rw [if_neg hq]; simp; omega
        · intro r t' s'' hr' k1 k2 k3 k4
          exact hR r t' s'' (by rw [hr', hall]) k1 (k2.trans e4) (k3.trans e5) (k4.trans e6)
end
end Rx
end SC
namespace SC
open PySem PySem.Spec PySem.Calls PyProof.Rows PySem.W
set_option maxRecDepth 100000
namespace Rx
open PySem.Builtin.Re
theorem str_no_call : typeLookup (.type "str") "__call__" = pure none := by rw [typeLookup_type, builtinLookup_eq_fast]; kernel_rfl
def subS (nx : Nat → Option (Nat × Nat)) (rep x : Str) : Str := Txt.join "" (subP x.cps nx rep (x.cps.size + 1) 0)
section
variable {prog : Program} {w : World} {A : Around}
theorem call_sub {E : Value → Shared → Prop} {Q : Value → Shared → Prop} {s : Shared} {a : Addr} {x : Str} {tk : Tok} {rep : Str} {rt : Tok} {code : Array Nat} {nx : Nat → Option (Nat × Nat)} (F : Finds code x.cps nx) (hx : x.length ≤ 2000) (hr : rep.length ≤ 10) (h92 : rep.cps.contains 92 = false) (hp : IsPat s.heap a code)
    (hQ : ∀ (t' : Tok) (s' : Shared), Ext true s s' → Q (.str (subS nx rep x) t') s') : wpAny (model prog w) A (call (.builtin "re.Pattern.sub") [.ref a, .str rep rt, .str x tk]) Q E s := by
  have hT : s.TypeIs (.ref a) "re.Pattern" := by
    obtain ⟨o, v0, v1, v3, v4, cd, oc, items, n, h1, h2, _⟩ := hp.ex
    exact ⟨o, h1, h2⟩
  refine wpAny_call (codeAny_call_builtin slot_pat_sub.plain entry_pat_sub (slot_pat_sub.check _ _ _ _ _ _ _ _ hT (args_pat_sub_3 _ _ _) ?_))
  show wpAny _ _ (reSubstitute "re.Pattern.sub" "sub" false ⟨[.ref a, .str rep rt, .str x tk], []⟩) _ _ s
  unfold reSubstitute
  refine wpAny_bind (wpAny_of_eq (a := [some (Value.str rep rt), some (Value.str x tk), none]) (by rfl) ?_)
  dsimp only
  refine wpAny_bind (wpAny_pure ?_)
  refine wpAny_bind (wpAny_specialOf (typeIs_str s rep rt) str_no_call ?_)
  rw [if_neg (by decide)]
  refine wpAny_bind (wpAny_of_eq (a := some rep) rfl ?_)
  dsimp only
  refine wpAny_bind (wpAny_pure ?_)
  rw [if_neg (by decide), h92, if_pos (by decide)]
  refine wpAny_bind (wpAny_pure ?_)
  refine wpAny_bind (wpAny_holding (wholeTarget hp ?_))
  dsimp only
  rw [if_neg (by decide)]
  refine wpAny_bind (wpAny_newObj_type ?_ (Nat.zero_le _))
  refine wpAny_pure ⟨Code.quiet_builtin _ (by decide +kernel), ?_⟩
  have hD : (s.heap.push (lstO [] 0)).get? s.heap.objs.size = some (lstO [] 0) := Heap.get?_push_size _ rfl
  exact sub_loop (R := fun r s' => match r with | .ok (.ret v) => Q v s' | .ok _ => False | .error e => E e s') F hx hr hp (get_size _) (x.cps.size + 1) 0 0 { s with heap := s.heap.push (lstO [] 0) } [] [] 0 (by omega) (Nat.zero_le _) (kpush _ _) hD .nil (Nat.zero_le _) (Nat.zero_le _)
    (fun r t' s' hr' k1 k2 k3 k4 => by subst hr'; exact hQ t' s' ⟨⟨k2, k3, by show GM true s.gens s'.gens; simp only [GM, if_true]; exact k4⟩, k1⟩)
end
end Rx
end SC
namespace SC
open PySem PySem.Spec PySem.Calls PyProof.Rows PySem.W
set_option maxRecDepth 100000
namespace Rx
open PySem.Sre
def hit1 (t : Array Nat) (q : Nat) : Bool := (q == 0 || t.getD (q - 1) 0 == 10) && (decide (q < t.size) && t.getD q 0 == 46)
def scan1 (t : Array Nat) : Nat → Nat → Option (Nat × Nat)
  | 0, _ => none
  | f + 1, q => if hit1 t q then some (q, q + 1) else scan1 t f (q + 1)
def nx1 (t : Array Nat) (p : Nat) : Option (Nat × Nat) := scan1 t (t.size + 1 - p) p
def R1 (t : Array Nat) (n q : Nat) (m : M) (r : Option (Nat × Nat)) : Prop := match r with
  | some (a, b) => q ≤ a ∧ a < b ∧ b ≤ t.size ∧ ∃ m', Ends n m m' ∧ m'.outcome = some .matched ∧ m'.start = a ∧ m'.handed = b
  | none => ∃ m', Ends n m m' ∧ m'.outcome = some .failed
theorem R1.to {t : Array Nat} {n n' q q' : Nat} {m m1 : M} {r : Option (Nat × Nat)} (hs : m.step = m1) (h : R1 t n q' m1 r) (hn : n + 1 ≤ n') (hq : q ≤ q') (ho : m.outcome.isSome = false := by rfl) : R1 t n' q m r := by
  cases r with
  | none =>
    obtain ⟨m', e, h2⟩ := h
    exact ⟨m', (e.to hs ho).le hn, h2⟩
  | some ab =>
    obtain ⟨a, b⟩ := ab
    obtain ⟨h1, h2, h3, m', e, h4⟩ := h
    exact ⟨Nat.le_trans hq h1, h2, h3, m', (e.to hs ho).le hn, h4⟩
theorem run1 (t : Array Nat) : ∀ (f q : Nat) (om : Bool) (se : Sre.Seen) (hd : Nat), f = t.size + 1 - q → q ≤ t.size → R1 t (6 * f + 3) q (S1 t q 5 q hd om [F1 q om] 1 none se none) (scan1 t f q)
  | 0, q, om, se, hd, hf, hq => by omega
  | f + 1, q, om, se, hd, hf, hq => by
    have fail : ∀ (pc pos hd' : Nat) (om' : Bool) (se' : Sre.Seen), hit1 t q = false → R1 t (6 * f + 6) q (S1 t q pc pos hd' om' [F1 q om] 1 (some false) se' none) (scan1 t (f + 1) q) := fun pc pos hd' om' se' hh => by
      rw [scan1, hh, if_neg (by decide)]
      by_cases hlt : q < t.size
      · have hs := s1_next (t := t) (st := q) (pos := pos) (hd := hd') (om := om') (se := se') (p := q) (pc := pc) (o := om)
        rw [if_pos hlt] at hs
        exact (run1 t f (q + 1) false se' (q + 1) (by omega) (by omega)).to hs (by omega) (by omega)
      · have hs := s1_next (t := t) (st := q) (pos := pos) (hd := hd') (om := om') (se := se') (p := q) (pc := pc) (o := om)
        rw [if_neg hlt] at hs
        have h0 : scan1 t f (q + 1) = none := by
          have : f = 0 := by omega
          subst this; rfl
        rw [h0]
        have h2 : R1 t 1 q (S1 t q 5 q hd' om [] 0 (some false) se' none) none := ⟨_, (Ends.done (n := 0) (by rfl)).to s1_fail, rfl⟩
        exact h2.to hs (by omega) (Nat.le_refl _)
    have hat := s1_at (t := t) (st := q) (pos := q) (hd := hd) (om := om) (fr := [F1 q om]) (w := 1) (se := se)
    by_cases h1 : (q == 0 || t.getD (q - 1) 0 == 10) = true
    · rw [if_pos h1] at hat
      have hlit := s1_lit (t := t) (st := q) (pos := q) (hd := hd) (om := om) (fr := [F1 q om]) (w := 1) (se := (se.add 6).add 44)
      by_cases h2 : q ≥ t.size
      · rw [if_pos h2] at hlit
        have hh : hit1 t q = false := by unfold hit1; rw [decide_eq_false (by omega)]; simp
        exact ((fail 7 q hd om _ hh).to hlit (Nat.le_refl _) (Nat.le_refl _)).to hat (by omega) (Nat.le_refl _)
      · rw [if_neg h2] at hlit
        by_cases h3 : (t.getD q 0 == 46) = true
        · rw [if_pos h3] at hlit
          have hh : hit1 t q = true := by unfold hit1; rw [h1, h3, decide_eq_true (by omega)]; rfl
          rw [scan1, hh, if_pos rfl]
          have e : R1 t 0 q (S1 t q 5 q (q + 1) om [] 0 (some true) ((((se.add 6).add 44).add 16).add 1) (some .matched)) (some (q, q + 1)) := ⟨Nat.le_refl _, Nat.lt_succ_self _, by omega, _, Ends.done (by rfl), rfl, rfl, rfl⟩
          exact ((((e.to s1_end (n' := 1) (Nat.le_refl _) (Nat.le_refl q)).to s1_yes (n' := 2) (Nat.le_refl _) (Nat.le_refl q)).to s1_suc (n' := 3) (Nat.le_refl _) (Nat.le_refl q)).to hlit (n' := 4) (Nat.le_refl _) (Nat.le_refl q)).to hat (by omega) (Nat.le_refl _)
        · rw [if_neg h3] at hlit
          have hh : hit1 t q = false := by unfold hit1; rw [show (t.getD q 0 == 46) = false by simpa using h3]; simp
          exact ((fail 7 q hd om _ hh).to hlit (Nat.le_refl _) (Nat.le_refl _)).to hat (by omega) (Nat.le_refl _)
    · rw [if_neg h1] at hat
      have hh : hit1 t q = false := by unfold hit1; rw [show (q == 0 || t.getD (q - 1) 0 == 10) = false by simpa using h1]; simp
      exact (fail 5 q hd om _ hh).to hat (by omega) (Nat.le_refl _)
theorem search1 (t : Array Nat) (p : Nat) (hp : p < t.size) : forSearch c1 t 0 p t.size false = S1 t p 5 p p true [F1 p true] 1 none (({} : Sre.Seen).add 14) none := by
  show (if (decide (p > t.size) || decide (t.size - p < 1)) = true then _ else _) = _
  rw [if_neg (by simp; omega)]
  rfl
theorem search1_end (t : Array Nat) : ∃ m', Ends 1 (forSearch c1 t 0 t.size t.size false) m' ∧ m'.outcome = some .failed := by
  have e : forSearch c1 t 0 t.size t.size false = { S1 t t.size 5 t.size t.size true [] 0 (some false) (({} : Sre.Seen).add 14) none with lastStart := 0 } := by
    show (if (decide (t.size > t.size) || decide (t.size - t.size < 1)) = true then _ else _) = _
    rw [if_pos (by simp)]
    rfl
  rw [e]
  exact ⟨_, (Ends.done (n := 0) (by rfl)).to (m1 := { S1 t t.size 5 t.size t.size true [] 0 (some false) (({} : Sre.Seen).add 14) (some .failed) with lastStart := 0 }) rfl, rfl⟩
theorem finds1 (t : Array Nat) (ht : t.size ≤ 1000000) : Finds c1 t (nx1 t) where
  yes := fun p a b hp hn => by
    rcases Nat.lt_or_ge p t.size with h | h
    · have := run1 t (t.size + 1 - p) p true (({} : Sre.Seen).add 14) p rfl hp
      rw [show scan1 t (t.size + 1 - p) p = some (a, b) from hn] at this
      obtain ⟨h1, h2, h3, m', e, h4, h5, h6⟩ := this
      exact ⟨h1, h2, h3, _, m', by omega, (search1 t p h) ▸ e, h4, h5, h6⟩
    · obtain rfl : p = t.size := by omega
      unfold nx1 at hn
      rw [show t.size + 1 - t.size = 1 by omega, scan1, show hit1 t t.size = false by unfold hit1; simp] at hn
      simp [scan1] at hn
  no := fun p hp hn => by
    rcases Nat.lt_or_ge p t.size with h | h
    · have := run1 t (t.size + 1 - p) p true (({} : Sre.Seen).add 14) p rfl hp
      rw [show scan1 t (t.size + 1 - p) p = none from hn] at this
      obtain ⟨m', e, h4⟩ := this
      exact ⟨_, m', by omega, (search1 t p h) ▸ e, h4⟩
    · obtain rfl : p = t.size := by omega
      obtain ⟨m', e, h4⟩ := search1_end t
      exact ⟨_, m', by omega, e, h4⟩
end Rx
end SC
namespace SC
open PySem PySem.Spec PySem.Calls PyProof.Rows PySem.W
set_option maxRecDepth 100000
namespace Rx
open PySem.Sre
def c2 : Array Nat := #[14, 9, 4, 1, 2, 16, 10, 16, 13, 0, 7, 7, 16, 13, 16, 10, 15, 18, 5, 16, 10, 15, 13, 11, 16, 13, 5, 5, 0, 16, 10, 1, 15, 2, 0, 1]
def S2 (t : Array Nat) (st pc pos hd : Nat) (om : Bool) (fr : List Sre.Frame) (w : Nat) (ans : Option Bool) (se : Sre.Seen) (out : Option Sre.Outcome) : M :=
  { code := c2, text := t, lim := t.size, start := st, lastStart := t.size, pc := pc, pos := pos, handed := hd, outermost := om, marks := #[], frames := fr, weight := w, answer := ans, seen := se, outcome := out }
def F2 (p : Nat) (om : Bool) : Sre.Frame := { wait := .nextStart, pc := 10, pos := p, outermost := om }
def G2 (j p : Nat) (om : Bool) : Sre.Frame := { wait := .nextBranch, pc := j, pos := p, outermost := om }
def K2 (p : Nat) (om : Bool) : Sre.Frame := { wait := .lookNot, pc := 26, pos := p, outermost := om }
variable {t : Array Nat} {st pos hd w p : Nat} {om o : Bool} {fr : List Sre.Frame} {se : Sre.Seen}
theorem s2_br : (S2 t st 10 pos hd om [F2 p o] 1 none se none).step = S2 t st 12 pos pos om [G2 11 pos om, F2 p o] 2 none (se.add 7) none := by rfl
def litR (t : Array Nat) (st pc pos hd : Nat) (om : Bool) (fr : List Sre.Frame) (w : Nat) (se : Sre.Seen) (v : Nat) : M :=
  if pos ≥ t.size then S2 t st pc pos hd om fr w (some false) (se.add 16) none else if (t.getD pos 0 == v) = true then S2 t st (pc + 2) (pos + 1) hd om fr w none (se.add 16) none else S2 t st pc pos hd om fr w (some false) (se.add 16) none
theorem lit_yes {pc v : Nat} (h : pos < t.size) (hv : t.getD pos 0 = v) : litR t st pc pos hd om fr w se v = S2 t st (pc + 2) (pos + 1) hd om fr w none (se.add 16) none := by
  unfold litR; rw [if_neg (by omega), if_pos (by rw [hv]; exact beq_self_eq_true _)]
theorem lit_no {pc v : Nat} (h : ¬ (pos < t.size ∧ t.getD pos 0 = v)) : litR t st pc pos hd om fr w se v = S2 t st pc pos hd om fr w (some false) (se.add 16) none := by
  unfold litR
  by_cases q : pos ≥ t.size
  · rw [if_pos q]
  · rw [if_neg q, if_neg (by intro z; exact h ⟨by omega, by simpa using z⟩)]
theorem lit_core {pc v : Nat} (hs : (S2 t st pc pos hd om fr w none se none).step = if pos ≥ t.size then S2 t st pc pos hd om fr w (some false) (se.add 16) none else (match (Except.ok (t.getD pos 0 == v, se.add 16) : Except String (Bool × Sre.Seen)) with
      | .error why => (S2 t st pc pos hd om fr w none (se.add 16) none).stick why
      | .ok (false, seen) => { S2 t st pc pos hd om fr w none (se.add 16) none with seen }.say false
      | .ok (true, seen) => { S2 t st pc pos hd om fr w none (se.add 16) none with seen, pc := pc + 2, pos := pos + 1 })) : (S2 t st pc pos hd om fr w none se none).step = litR t st pc pos hd om fr w se v := by
  rw [hs]
  unfold litR
  by_cases h : pos ≥ t.size
  · rw [if_pos h, if_pos h]
  · rw [if_neg h, if_neg h]
    by_cases q : (t.getD pos 0 == v) = true
    · rw [if_pos q, q]; rfl
    · have q' : (t.getD pos 0 == v) = false := by simpa using q
      rw [if_neg q, q']; rfl
theorem s2_l12 : (S2 t st 12 pos hd om fr w none se none).step = litR t st 12 pos hd om fr w se 13 := lit_core rfl
theorem s2_l14 : (S2 t st 14 pos hd om fr w none se none).step = litR t st 14 pos hd om fr w se 10 := lit_core rfl
theorem s2_l19 : (S2 t st 19 pos hd om fr w none se none).step = litR t st 19 pos hd om fr w se 10 := lit_core rfl
theorem s2_l24 : (S2 t st 24 pos hd om fr w none se none).step = litR t st 24 pos hd om fr w se 13 := lit_core rfl
theorem s2_l29 : (S2 t st 29 pos hd om fr w none se none).step = litR t st 29 pos hd om fr w se 10 := lit_core rfl
theorem s2_j16 : (S2 t st 16 pos hd om fr w none se none).step = S2 t st 35 pos hd om fr w none (se.add 15) none := by rfl
theorem s2_j21 : (S2 t st 21 pos hd om fr w none se none).step = S2 t st 35 pos hd om fr w none (se.add 15) none := by rfl
theorem s2_j32 : (S2 t st 32 pos hd om fr w none se none).step = S2 t st 35 pos hd om fr w none (se.add 15) none := by rfl
theorem s2_suc : (S2 t st 35 pos hd om fr w none se none).step = S2 t st 35 pos pos om fr w (some true) (se.add 1) none := by cases om <;> rfl
theorem s2_yesB {pc j q : Nat} {o2 : Bool} : (S2 t st pc pos hd om [G2 j q o2, F2 p o] 2 (some true) se none).step = S2 t st j q hd o2 [F2 p o] 1 (some true) se none := by rfl
theorem s2_yesF {pc : Nat} : (S2 t st pc pos hd om [F2 p o] 1 (some true) se none).step = S2 t st 10 p hd o [] 0 (some true) se none := by rfl
theorem s2_end {pc : Nat} : (S2 t st pc pos hd om [] 0 (some true) se none).step = S2 t st pc pos hd om [] 0 (some true) se (some .matched) := by rfl
theorem s2_no11 {pc q : Nat} {o2 : Bool} : (S2 t st pc pos hd om [G2 11 q o2, F2 p o] 2 (some false) se none).step = S2 t st 19 q q o2 [G2 18 q o2, F2 p o] 2 none se none := by rfl
theorem s2_no18 {pc q : Nat} {o2 : Bool} : (S2 t st pc pos hd om [G2 18 q o2, F2 p o] 2 (some false) se none).step = S2 t st 24 q q o2 [G2 23 q o2, F2 p o] 2 none se none := by rfl
theorem s2_asrt {q : Nat} {o2 : Bool} : (S2 t st 26 pos hd om [G2 23 q o2, F2 p o] 2 none se none).step = S2 t st 29 pos pos false [K2 pos om, G2 23 q o2, F2 p o] 3 none (se.add 5) none := by rfl
theorem s2_look {pc q r : Nat} {o2 o3 : Bool} : (S2 t st pc pos hd om [K2 r o3, G2 23 q o2, F2 p o] 3 (some false) se none).step = S2 t st 32 r hd o3 [G2 23 q o2, F2 p o] 2 none se none := by rfl
end Rx
end SC
namespace SC
open PySem PySem.Spec PySem.Calls PyProof.Rows PySem.W
set_option maxRecDepth 100000
namespace Rx
open PySem.Sre
def eol (t : Array Nat) (q : Nat) : Nat := if t.getD q 0 = 13 ∧ q + 1 < t.size ∧ t.getD (q + 1) 0 = 10 then 2 else 1
theorem eol_pos (t : Array Nat) (q : Nat) : 1 ≤ eol t q := by unfold eol; split <;> decide
theorem eol_le {t : Array Nat} {q : Nat} (h : q < t.size) : q + eol t q ≤ t.size := by
  unfold eol
  by_cases z : t.getD q 0 = 13 ∧ q + 1 < t.size ∧ t.getD (q + 1) 0 = 10
  · rw [if_pos z]; exact z.2.1
  · rw [if_neg z]; exact h
def Got (t : Array Nat) (n : Nat) (m : M) (a b : Nat) : Prop := ∃ m', Ends n m m' ∧ m'.outcome = some .matched ∧ m'.start = a ∧ m'.handed = b
theorem Got.to {t : Array Nat} {n : Nat} {m m1 : M} {a b : Nat} (hs : m.step = m1) (h : Got t n m1 a b) (ho : m.outcome.isSome = false := by rfl) : Got t (n + 1) m a b := by
  obtain ⟨m', e, h2⟩ := h
  exact ⟨m', e.to hs ho, h2⟩
theorem Got.le {t : Array Nat} {n n' : Nat} {m : M} {a b : Nat} (h : Got t n m a b) (hn : n ≤ n') : Got t n' m a b := by
  obtain ⟨m', e, h2⟩ := h
  exact ⟨m', e.le hn, h2⟩
variable {t : Array Nat} {st pos hd w p : Nat} {om o : Bool} {fr : List Sre.Frame} {se : Sre.Seen}
theorem got_suc {j q : Nat} {o2 : Bool} : Got t 4 (S2 t st 35 pos hd om [G2 j q o2, F2 p o] 2 none se none) st pos :=
  Got.to s2_suc (Got.to s2_yesB (Got.to s2_yesF (Got.to s2_end ⟨_, Ends.done (n := 0) (by rfl), rfl, rfl, rfl⟩)))
theorem att2 {q : Nat} (hq : q < t.size) (h : t.getD q 0 = 10 ∨ t.getD q 0 = 13) : Got t 40 (S2 t q 10 q hd om [F2 q om] 1 none se none) q (q + eol t q) := by
  rcases h with h | h
  · have e : eol t q = 1 := by unfold eol; rw [if_neg (by rw [h]; simp)]
    rw [e]
    exact (Got.to s2_br (Got.to (s2_l12.trans (lit_no (by rw [h]; simp))) (Got.to s2_no11 (Got.to (s2_l19.trans (lit_yes hq h)) (Got.to s2_j21 got_suc))))).le (by omega)
  · by_cases h2 : q + 1 < t.size ∧ t.getD (q + 1) 0 = 10
    · have e : eol t q = 2 := by unfold eol; rw [if_pos ⟨h, h2⟩]
      rw [e]
      exact (Got.to s2_br (Got.to (s2_l12.trans (lit_yes hq h)) (Got.to (s2_l14.trans (lit_yes h2.1 h2.2)) (Got.to s2_j16 got_suc)))).le (by omega)
    · have e : eol t q = 1 := by unfold eol; rw [if_neg (fun z => h2 z.2)]
      rw [e]
      exact (Got.to s2_br (Got.to (s2_l12.trans (lit_yes hq h)) (Got.to (s2_l14.trans (lit_no h2)) (Got.to s2_no11 (Got.to (s2_l19.trans (lit_no (by rw [h]; simp))) (Got.to s2_no18 (Got.to (s2_l24.trans (lit_yes hq h)) (Got.to s2_asrt (Got.to (s2_l29.trans (lit_no h2)) (Got.to s2_look (Got.to s2_j32 got_suc))))))))))).le (by omega)
def isEol (c : Nat) : Bool := c == 10 || c == 13
theorem inSet2 (c : Nat) (se : Sre.Seen) : ∃ se', inSet c2 c c2.size 5 true se = .ok (isEol c, se') := by
  have e : inSet c2 c c2.size 5 true se = if (c == 10) = true then .ok (true, se.add 16) else if (c == 13) = true then .ok (true, (se.add 16).add 16) else .ok (false, ((se.add 16).add 16).add 0) := by rfl
  rw [e]
  unfold isEol
  by_cases h : (c == 10) = true
  · exact ⟨_, by rw [if_pos h, h]; rfl⟩
  · have h' : (c == 10) = false := by simpa using h
    rw [if_neg h, h']
    by_cases q : (c == 13) = true
    · exact ⟨_, by rw [if_pos q, q]; rfl⟩
    · have q' : (c == 13) = false := by simpa using q
      exact ⟨_, by rw [if_neg q, q']; rfl⟩
def scan2 (t : Array Nat) : Nat → Nat → Option Nat
  | 0, _ => none
  | f + 1, q => if q ≥ t.size then none else if isEol (t.getD q 0) then some q else scan2 t f (q + 1)
theorem scan2_ok : ∀ (f q a : Nat), scan2 t f q = some a → q ≤ a ∧ a < t.size ∧ isEol (t.getD a 0) = true
  | 0, _, _, h => by cases h
  | f + 1, q, a, h => by
    rw [scan2] at h
    by_cases h1 : q ≥ t.size
    · rw [if_pos h1] at h; cases h
    · rw [if_neg h1] at h
      by_cases h2 : isEol (t.getD q 0) = true
      · rw [if_pos h2] at h; cases h; exact ⟨Nat.le_refl _, by omega, h2⟩
      · rw [if_neg h2] at h
        obtain ⟨a1, a2, a3⟩ := scan2_ok f (q + 1) a h
        exact ⟨by omega, a2, a3⟩
theorem adm2 (m : M) (hc : m.code = c2) (ht : m.text = t) (hl : m.lim = t.size) : ∀ (f q : Nat) (se : Sre.Seen), ∃ se', m.admitted f q se = .ok (scan2 t f q, se')
  | 0, q, se => ⟨se, rfl⟩
  | f + 1, q, se => by
    rw [M.admitted, scan2, hl]
    by_cases h1 : q ≥ t.size
    · rw [if_pos h1, if_pos h1]; exact ⟨se, rfl⟩
    · rw [if_neg h1, if_neg h1, hc, ht]
      obtain ⟨se', e⟩ := inSet2 (t.getD q 0) se
      rw [e]
      cases hb : isEol (t.getD q 0) with
      | true => exact ⟨se', rfl⟩
      | false => exact adm2 m hc ht hl f (q + 1) se'
def nx2 (t : Array Nat) (p : Nat) : Option (Nat × Nat) := match scan2 t (t.size + 1 - p) p with
  | some q => some (q, q + eol t q)
  | none => none
def M02 (t : Array Nat) (p : Nat) : M := { code := c2, text := t, lim := t.size, start := p, lastStart := t.size, pc := 10, pos := p, handed := p, marks := #[], seen := ({} : Sre.Seen).add 14 }
theorem search2 (t : Array Nat) (p : Nat) (hp : p < t.size) : forSearch c2 t 0 p t.size false = (match (M02 t p).admitted (t.size + 1 - p) p (({} : Sre.Seen).add 14) with
    | .ok (some s, seen) => { M02 t p with mustAdvance := false, seen }.attemptAt s true
    | .ok (none, seen) => { M02 t p with seen }.say false
    | .error why => (M02 t p).stick why) := by
  show (if (decide (p > t.size) || decide (t.size - p < 1)) = true then _ else _) = _
  rw [if_neg (by simp; omega)]
  rfl
theorem search2_end (t : Array Nat) : ∃ m', Ends 1 (forSearch c2 t 0 t.size t.size false) m' ∧ m'.outcome = some .failed := by
  have e : forSearch c2 t 0 t.size t.size false = { M02 t t.size with lastStart := 0, answer := some false } := by
    show (if (decide (t.size > t.size) || decide (t.size - t.size < 1)) = true then _ else _) = _
    rw [if_pos (by simp)]
    rfl
  rw [e]
  exact ⟨_, (Ends.done (n := 0) (by rfl)).to (m1 := { M02 t t.size with lastStart := 0, answer := some false, outcome := some .failed }) rfl, rfl⟩
theorem finds2 (t : Array Nat) : Finds c2 t (nx2 t) where
  yes := fun p a b hp hn => by
    unfold nx2 at hn
    cases hs : scan2 t (t.size + 1 - p) p with
    | none => rw [hs] at hn; cases hn
    | some q =>
      rw [hs] at hn
      obtain ⟨rfl, rfl⟩ : q = a ∧ q + eol t q = b := by cases hn; exact ⟨rfl, rfl⟩
      obtain ⟨h1, h2, h3⟩ := scan2_ok _ _ _ hs
      have hlt : p < t.size := by omega
      obtain ⟨se', e⟩ := adm2 (t := t) (M02 t p) rfl rfl rfl (t.size + 1 - p) p (({} : Sre.Seen).add 14)
      have h3' : t.getD q 0 = 10 ∨ t.getD q 0 = 13 := by simpa [isEol] using h3
      obtain ⟨m', g1, g2, g3, g4⟩ := att2 (hd := q) (om := true) (se := se') h2 h3'
      refine ⟨h1, ?_, ?_, 40, m', by decide, ?_, g2, g3, g4⟩
      · have := eol_pos t q; omega
      · exact eol_le h2
      · rw [search2 t p hlt, e, hs]; exact g1
  no := fun p hp hn => by
    unfold nx2 at hn
    rcases Nat.lt_or_ge p t.size with h | h
    · cases hs : scan2 t (t.size + 1 - p) p with
      | some q => rw [hs] at hn; cases hn
      | none =>
        obtain ⟨se', e⟩ := adm2 (t := t) (M02 t p) rfl rfl rfl (t.size + 1 - p) p (({} : Sre.Seen).add 14)
        refine ⟨1, { M02 t p with seen := se', answer := some false, outcome := some .failed }, by decide, ?_, rfl⟩
        rw [search2 t p h, e, hs]
        exact (Ends.done (n := 0) (by rfl)).to rfl
    · obtain rfl : p = t.size := by omega
      obtain ⟨m', e, h4⟩ := search2_end t
      exact ⟨_, m', by decide, e, h4⟩
end Rx
end SC
namespace SC
open PySem PySem.Spec PySem.Calls PyProof.Rows PySem.W
set_option maxRecDepth 100000
structure OkP (W : Wd) : Prop where
  pat1 : ∀ h, W.B h → ∃ a, W.mg "_twin_re_1" = some (.ref a) ∧ Rx.IsPat h a Rx.c1
  pat2 : ∀ h, W.B h → ∃ a, W.mg "_twin_re_2" = some (.ref a) ∧ Rx.IsPat h a Rx.c2
  crlf : (("CRLF" : Str), PyData.str "\r\n") ∈ W.consts
def fixS (x : Str) : Str := Rx.subS (Rx.nx2 x.cps) "\r\n" x
def quoteS (x : Str) : Str := Rx.subS (Rx.nx1 (fixS x).cps) ".." (fixS x)
section
variable {W : Wd} {p : Bool} {C : Fc} {ρ : Rho}
theorem Ev.patsub {g : Str} {e1 e2 : Expr} {p1 p2 p3 : Pos} {x rep : Str} {code : Array Nat} {nx : Nat → Option (Nat × Nat)} {pl : Sem Bool} (hg : ∀ h, W.B h → ∃ a, W.mg g = some (.ref a) ∧ Rx.IsPat h a code) (F : Rx.Finds code x.cps nx)
    (h1 : Ev W p C ρ e1 (.str rep)) (h2 : Ev W p C ρ e2 (.str x)) (hx : x.length ≤ 2000) (hr : rep.length ≤ 10) (h92 : rep.cps.contains 92 = false) (hk : C.env.kindOf g = some .globalImplicit) (hd : (g == ("__debug__" : Str)) = false := by decide)
    (hE : eval (.Call (.Attribute (.Name g p1) "sub" p2) [e1, e2] [] p3) C.env = (do
      let ov ← eval (.Name g p1) C.env
      standAt p2.atName
      let (f, first) ← holding [ov] (getMethod ov "sub" pl)
      callWith p3 f first (backTo p3 (starEach [e1, e2] C.env)) []) := by rfl)
    (hs1 : starEach [e1, e2] C.env = (false, eval e1 C.env) :: starEach [e2] C.env := by rfl) (hs2 : starEach [e2] C.env = (false, eval e2 C.env) :: starEach [] C.env := by rfl)
    (hplain : (backTo p3 (starEach [e2] C.env)).any (·.1) = false := by rfl) :
    Ev W p C ρ (.Call (.Attribute (.Name g p1) "sub" p2) [e1, e2] [] p3) (.str (Rx.subS nx rep x)) := by
  intro s Q E I k
  obtain ⟨a, ha, hp⟩ := hg _ I.B
  obtain ⟨o, v0, v1, v3, v4, cd, oc, items, n, g1, g2, g3, _⟩ := hp.ex
  refine MethodCall_ (pl := pl) (Name_function_global I.wf.kind hk (loadGlobal_global (by rw [I.wf.gl]; exact I.G.g) ha ?_) hd) hE
  refine getMethod_builtin ⟨o, g1, g2⟩ plainAttrs_pat slot_pat_sub type_pat_sub (fun b e => by cases e; exact ⟨o, g1, g3⟩) ?_
  refine callWith_method1 ((Evs.cons h1 (Evs.cons h2 Evs.nil hs2) hs1) p3 s _ _ I fun vs s1 x1 v1 => ?_) hs1 hplain
  obtain ⟨u, v, rfl, q1, q2⟩ := two v1
  obtain ⟨t1, rfl⟩ := q1.str_is
  obtain ⟨t2, rfl⟩ := q2.str_is
  exact Rx.call_sub F hx hr h92 (hp.kp x1.kp) fun t' s' x2 => k _ _ (x1.trans x2.of_true) V.str
end
variable {W : Wd}
theorem fix_con (O : OkW W) (P : OkP W) (x : Str) (hx : x.length ≤ 2000) : Con W true dFix [.str x] (.str (fixS x)) 4 := by
  refine Con.intro1 (n := 0) (x := "data") (O.defs 12 (by decide)) ?_
  intro Ar L f cd pm doc ent mu rm hB hmu
  refine Run.of (Exs.stop (Ex.ret (Ev.patsub P.pat2 (Rx.finds2 x.cps) (Ev.gstr P.crlf rfl) (Ev.loc (x := "data") rfl rfl) hx (by decide +kernel) (by decide +kernel) rfl)) (by simp)) ?_
  exact fun a h => .tail _ (List.mem_append_right _ h)
theorem quote_con (O : OkW W) (P : OkP W) (x : Str) (hx : x.length ≤ 2000) (hf : (fixS x).length ≤ 2000) : Con W true dQuote [.str x] (.str (quoteS x)) 4 := by
  refine Con.intro1 (n := 0) (x := "data") (O.defs 11 (by decide)) ?_
  intro Ar L f cd pm doc ent mu rm hB hmu
  refine Run.of (Exs.stop (Ex.ret (Ev.patsub P.pat1 (Rx.finds1 (fixS x).cps (by have : (fixS x).cps.size ≤ 2000 := hf; omega)) Ev.cstr (Ev.patsub P.pat2 (Rx.finds2 x.cps) (Ev.gstr P.crlf rfl) (Ev.loc (x := "data") rfl rfl) hx (by decide +kernel) (by decide +kernel) rfl) hf (by decide +kernel) (by decide +kernel) rfl)) (by simp)) ?_
  exact fun a h => .tail _ (List.mem_append_right _ h)
end SC
namespace SC
open PySem PySem.Spec PySem.Calls PyProof.Rows PySem.W
set_option maxRecDepth 100000
def clsBody : Stmt → List Stmt
  | .ClassDef _ _ _ body _ _ _ _ _ _ _ => body
  | _ => []
def asItem : Stmt → DefItem
  | .FunctionDef name a b _ _ _ sc _ _ pos => ⟨name, a, b, sc, pos⟩
  | _ => itemAt 100
def initD : DefItem := asItem (((clsBody ((PySem.Challenge.pw_sc0070_01.main.body[14]?).getD (.Pass ⟨0, 0, 0, 0⟩)))[1]?).getD (.Pass ⟨0, 0, 0, 0⟩))
def initF (pm cd doc : Value) : FuncData := { docDef initD.name initD.params initD.body initD.scope pm cd doc with qualname := "Whitespace.__init__" }
structure ClsAt (h : Heap) (C N f : Addr) (mN : Str → Option Value) : Prop where
  obj : ∃ nm q bs sn sub col dd k0 k1 k2 k3 k5, h.get? C = some (excClassObj nm q C N bs [.type "object"] true sn sub false col dd k0 k1 k2 k3 k5 "object.__new__")
  ns : h.Ns N mN
  init : mN "__init__" = some (.ref f)
  none : ∀ x ∈ ([("__setattr__" : Str), "__getattribute__", "raw", "n", "nt", "norm", "is_simple"] : List Str), mN x = none
  fn : ∃ o pm cd doc, h.get? f = some o ∧ o.cls = .type "function" ∧ o.data = .func (initF pm cd doc) ∧ h.CodeRec cd "Whitespace.__init__"
theorem ClsAt.kp {h h' : Heap} {C N f : Addr} {mN : Str → Option Value} (x : ClsAt h C N f mN) (k : Kp h h') : ClsAt h' C N f mN := by
  obtain ⟨⟨nm, q, bs, sn, sub, col, dd, k0, k1, k2, k3, k5, h1⟩, h2, h3, h4, o, pm, cd, doc, h5, h6, h7, h8⟩ := x
  exact ⟨⟨nm, q, bs, sn, sub, col, dd, k0, k1, k2, k3, k5, k _ _ h1⟩, h2.keeps k, h3, h4, o, pm, cd, doc, k _ _ h5, h6, h7, h8.keeps k⟩
structure OkC (W : Wd) (C N f : Addr) (mN : Str → Option Value) : Prop where
  cls : ∀ h, W.B h → ClsAt h C N f mN
  g : W.mg "Whitespace" = some (.ref C)
  attS : ∀ (A : Around) (s : Shared) (Q E : Value → Shared → Prop) (ex : Bool), W.B s.heap → (∀ t, Q (.str " " t) { s with toks := s.toks + 1 }) → wpAny W.M A (getAttr (.ref C) "S" ex) Q E s
  attT : ∀ (A : Around) (s : Shared) (Q E : Value → Shared → Prop) (ex : Bool), W.B s.heap → (∀ t, Q (.str "\t" t) { s with toks := s.toks + 1 }) → wpAny W.M A (getAttr (.ref C) "T" ex) Q E s
section
variable {prog : Program} {w : World}
theorem Cmp.le (a b : Int) : Cmp prog w .LtE (.int a) (.int b) (decide (a ≤ b)) := by
  intro Ar mu s x y _ _ hx hy Q E h
  obtain ⟨t, rfl⟩ := hx.int_is; obtain ⟨u, rfl⟩ := hy.int_is
  exact P.le_int (h _ _ (Ext.refl _ _) V.bool)
end
structure Fo (W : Wd) (C : Fc) (ρ : Rho) (x dx Cl : Addr) (mA : Str → Option Value) (s : Shared) : Prop where
  inv : Inv W C ρ s
  inst : s.heap.Inst x Cl mA
  dict : ∀ o, s.heap.get? x = some o → o.dict = some dx
structure Ap (C : Fc) (x dx : Addr) : Prop where
  ex : C.ent.get? x = none
  ed : C.ent.get? dx = none
  xL : x ≠ C.env.locals
  dL : dx ≠ C.env.locals
  own : C.own = none
  cel : C.env.cells = []
  oc : ∀ y, C.oc y = false
theorem Ap.mo {C : Fc} {x dx : Addr} (a : Ap C x dx) {b : Addr} (h : C.mo b) : b = C.env.locals := by
  rcases h with h | ⟨y, h, _⟩ | ⟨y, h⟩
  · exact h
  · rw [a.oc] at h; cases h
  · rw [a.own] at h; cases h
section
variable {W : Wd} {C : Fc} {ρ ρ1 : Rho} {x dx Cl : Addr} {mA : Str → Option Value}
theorem Fo.keep {s s' : Shared} (F : Fo W C ρ x dx Cl mA s) (I : Inv W C ρ1 s') (hx : ∀ o, s.heap.get? x = some o → s'.heap.get? x = some o) (hd : ∀ o, s.heap.get? dx = some o → s'.heap.get? dx = some o) : Fo W C ρ1 x dx Cl mA s' := by
  obtain ⟨o, h1, h2, h3, h4⟩ := F.inst
  have hdx := F.dict o h1
  refine ⟨I, ⟨o, hx o h1, h2, h3, ?_⟩, fun o' e => by rw [hx o h1] at e; cases e; exact hdx⟩
  rcases h4 with ⟨h4, h5⟩ | ⟨d, h4, h5, h6⟩
  · exact .inl ⟨h4, h5⟩
  · rw [hdx] at h4; cases h4
    exact .inr ⟨dx, hdx, h5, h6.at hd⟩
theorem Fo.stm {s s' : Shared} (F : Fo W C ρ x dx Cl mA s) (a : Ap C x dx) (X : Stm true C s s') (I : Inv W C ρ1 s') : Fo W C ρ1 x dx Cl mA s' :=
  F.keep I (fun o e => X.km x o (fun q => a.xL (a.mo q)) e) (fun o e => X.km dx o (fun q => a.dL (a.mo q)) e)
theorem go_ex {st : Stmt} {rest : List Stmt} {Q : Flow → Shared → Prop} {E : Value → Shared → Prop} {s : Shared} (a : Ap C x dx) (h : Ex W true C ρ st .next ρ1) (F : Fo W C ρ x dx Cl mA s)
    (k : ∀ s', Stm true C s s' → Fo W C ρ1 x dx Cl mA s' → wpAny W.M C.A (execs rest C.env) Q E s') : wpAny W.M C.A (execs (st :: rest) C.env) Q E s :=
  wpAny_execs_cons (h s _ _ F.inv fun f s1 x1 I1 e => by obtain rfl : f = .next := e; exact k s1 x1 (F.stm a x1 I1))
theorem go_set {N f : Addr} {mN : Str → Option Value} {at' : Str} {e : Expr} {R : AV} {p1 p2 pos : Pos} {rest : List Stmt} {Q : Flow → Shared → Prop} {E : Value → Shared → Prop} {s : Shared} {ns : List Str} (a : Ap C x dx) (K : ClsAt s.heap Cl N f mN) (hxC : x ≠ Cl)
    {ρe : Rho} (he : Ev W true C ρe e R) (Ie : Inv W C ρe s) (F : Fo W C ρ x dx Cl mA s) (hf : RFlat ρ) (hs : ρ.lookup ("self" : Str) = some (AV.ref x)) (hk : C.env.kindOf "self" = some .local) (hat : at' ∈ ([("__setattr__" : Str), "__getattribute__", "raw", "n", "nt", "norm", "is_simple"] : List Str))
    (hB : typeLookup (.type "object") at' = pure none) (hw : Within mA ns) (hsz : ns.length ≤ sizeLine)
    (k : ∀ s' v, V (fz s'.heap (x :: dx :: C.mu)) R v → Glo true s s' → (∀ b o, b ≠ x → b ≠ dx → s.heap.get? b = some o → s'.heap.get? b = some o) → Fo W C ρ x dx Cl (fun y => if y = at' then some v else mA y) s' → wpAny W.M C.A (execs rest C.env) Q E s')
    (hmx : x ∈ C.mu) (hmd : dx ∈ C.mu)
    (hsw : swapsWith e (some (.Attribute (.Name "self" p1) at' p2)) pos.line C.env = pure false := by rfl) : wpAny W.M C.A (execs (.Assign [.Attribute (.Name "self" p1) at' p2] e pos :: rest) C.env) Q E s := by
  refine wpAny_execs_cons (plainObj_wpAny_Assign_Attribute (he s _ _ Ie fun v s1 x1 v1 => ?_) hsw)
  have I1 := F.inv.ext x1
  refine (Ev.loc (W := W) (p := true) (C := C) (ρ := ρ) (R := .ref x) hs hk) s1 _ _ I1 fun u s2 x2 v2 => ?_
  obtain rfl := v2.ref_is
  have x12 := x1.trans x2
  have I2 := I1.ext x2
  have F2 : Fo W C ρ x dx Cl mA s2 := F.keep I2 (fun o e => x12.kp x o e) (fun o e => x12.kp dx o e)
  obtain ⟨⟨nm, q, bs, sn, sub, col, dd, k0, k1, k2, k3, k5, h1⟩, h2, h3, h4, _⟩ := K.kp x12.kp
  obtain ⟨hp, g, d, t, os⟩ := s2
  refine store_attr PySem.F.store_object h1 h2 (h4 _ (by simp)) (h4 _ hat) hB hxC F2.inst (fun h' tk' I' hk' hsame => ?_) hw hsz
  have hkeep : ∀ b o, b ≠ x → b ≠ dx → hp.get? b = some o → h'.get? b = some o := fun b o n1 n2 e => hk' b o n1 (fun o₀ dx' e1 e2 => by have := F2.dict o₀ e1; rw [this] at e2; cases e2; exact n2) e
  have dict' : ∀ o, h'.get? x = some o → o.dict = some dx := fun o e => by
    obtain ⟨o₀, e0, _⟩ := F2.inst
    obtain ⟨o₁, e1, _, _, _, e2⟩ := hsame o₀ e0
    rw [e1] at e; cases e
    exact e2 dx (F2.dict o₀ e0)
  have live : (h'.get? x).isSome = true ∧ (h'.get? dx).isSome = true := by
    obtain ⟨o, e1, e2, e3, e4⟩ := I'
    refine ⟨by rw [e1]; rfl, ?_⟩
    rcases e4 with ⟨e4, e5⟩ | ⟨d', e4, e5, e6⟩
    · rw [dict' o e1] at e4; cases e4
    · rw [dict' o e1] at e4; cases e4
      obtain ⟨o2, _, _, e7, _⟩ := e6
      rw [e7]; rfl
  have I3 : Inv W C ρ ⟨h', g, d, tk', os⟩ := I2.flat hf (fun b o e => hkeep b o (fun z => by rw [z, a.ex] at e; cases e) (fun z => by rw [z, a.ed] at e; cases e) (I2.ent b o e)) (fun o e => hkeep _ o (Ne.symm a.xL) (Ne.symm a.dL) e) (fun y b e => by rw [a.own] at e; cases e)
    (fun y c e => by rw [a.cel] at e; cases e) (fun b hb => by
      by_cases n1 : b = x
      · subst n1; exact live.1
      · by_cases n2 : b = dx
        · subst n2; exact live.2
        · obtain ⟨o, e⟩ := Option.isSome_iff_exists.mp (I2.mub b hb)
          show (h'.get? b).isSome = true
          rw [hkeep b o n1 n2 e]; rfl)
  refine k _ v ?_ ⟨x12.dr, x12.os, x12.ge⟩ (fun b o n1 n2 e => hkeep b o n1 n2 (x12.kp b o e)) ⟨I3, I', dict'⟩
  refine V.mono (fun b o e => ?_) _ _ v1
  have hb : b ∉ C.mu := fz.notin e
  have n1 : b ≠ x := fun z => hb (z ▸ hmx)
  have n2 : b ≠ dx := fun z => hb (z ▸ hmd)
  refine fz.of (hkeep b o n1 n2 (x2.kp b o (fz.get e))) fun z => ?_
  rcases List.mem_cons.mp z with z | z
  · exact n1 z
  · rcases List.mem_cons.mp z with z | z
    · exact n2 z
    · exact hb z
end
end SC
namespace SC
open PySem PySem.Spec PySem.Calls PyProof.Rows PySem.W
set_option maxRecDepth 100000
section
variable {prog : Program} {w : World} {A : Around} {E : Value → Shared → Prop} {s : Shared}
theorem setItem_plain {l : Addr} {vs : List Value} {n : Nat} {k : Int} {t : Tok} {v : Value} {Q : Unit → Shared → Prop} (ho : s.heap.get? l = some (lstO vs n)) (h0 : 0 ≤ k) (hfit : k < 2 ^ 63) (hn : k < vs.length)
    (hQ : ∀ h', h'.get? l = some (lstO (vs.set k.toNat v) n) → Heap.SameBut l s.heap h' → Q () { s with heap := h' }) : wpAny (model prog w) A (setItem (.ref l) (.int k t) v) Q E s := by
  have hl : s.heap.IsList l vs.toArray := isL ho
  unfold setItem
  try with_reducible refine wpAny_holding ?_
  first | refine wpAny_bind (wpAny_pure ?_) | skip
  refine wpAny_bind (wpAny_sequenceKey hl.typeIs (by decide) ?_)
  refine wpAny_bind (wpAny_callSpecial?_slot (name := Str.ofString "__setitem__") hl.typeIs slot_list_setitem
    (wpAny_call_entry slot_list_setitem hl.typeIs entry_list_setitem ?_ (args_list_setitem _ _ _)))
  show wpAny _ _ (Builtin.List.listSubscript? (.int k t) >>= _) _ _ s
  refine wpAny_bind (wpAny_listSubscript_int (fitsIndex_of h0 hfit) ?_)
  obtain ⟨j, rfl⟩ := Int.eq_ofNat_of_zero_le h0
  have hj : j < vs.toArray.size := by rw [List.size_toArray]; omega
  have hx' : vs.toArray[j]? = some vs.toArray[j] := Array.getElem?_eq_getElem hj
  show wpAny _ _ ((seqItemAt l j >>= fun r => pure (r.map (j, ·))) >>= _) _ _ s
  refine wpAny_bind (wpAny_bind (wpAny_seqItemAt ho rfl (wpAny_pure ?_)))
  rw [hx']
  show wpAny _ _ (setSeqItemAt l j v >>= _) _ _ s
  have e1 : Obj.mapSeq (·.setIfInBounds j v) (lstO vs n) = lstO (vs.set j v) n := by
    simp [Obj.mapSeq]
  have hfin : (s.heap.update l (Obj.mapSeq (·.setIfInBounds j v))).get? l = some (lstO (vs.set j v) n) := by
    rw [Heap.get?_update_self _ ho (by rw [e1]; rfl), e1]
  refine wpAny_bind (wpAny_setSeqItemAt ho rfl ?_)
  first
    | exact wpAny_bind (wpAny_pure (wpAny_pure ⟨.none, rfl, wpAny_pure (hQ _ hfin (Heap.SameBut.update ..))⟩))
    | exact wpAny_pure ⟨.none, rfl, wpAny_pure (hQ _ hfin (Heap.SameBut.update ..))⟩
end
structure Ct (C : Fc) (cnt : List Int) (ca : Addr) (s : Shared) : Prop where
  obj : ∃ n vs, s.heap.get? ca = some (lstO vs n) ∧ IntsAre vs cnt
  mu : ca ∉ C.mu
  ent : C.ent.get? ca = none
section
variable {W : Wd} {C : Fc} {ρ : Rho} {cnt : List Int} {ca : Addr}
theorem Ct.keep {s s' : Shared} (c : Ct C cnt ca s) (h : ∀ o, s.heap.get? ca = some o → s'.heap.get? ca = some o) : Ct C cnt ca s' := by
  obtain ⟨⟨n, vs, h1, h2⟩, h3, h4⟩ := c
  exact ⟨⟨n, vs, h _ h1, h2⟩, h3, h4⟩
theorem Ct.ext {p : Bool} {s s' : Shared} (c : Ct C cnt ca s) (x : Ext p s s') : Ct C cnt ca s' := c.keep fun o e => x.kp _ _ e
theorem Ct.stm {p : Bool} {s s' : Shared} (wf : WF W C) (c : Ct C cnt ca s) (x : Stm p C s s') : Ct C cnt ca s' := c.keep fun o e => x.km _ _ (fun q => c.mu (wf.mo' q)) e
theorem Ct.V {s : Shared} (c : Ct C cnt ca s) : V (fz s.heap C.mu) (.list (cnt.map .int)) (.ref ca) := by
  obtain ⟨⟨n, vs, h1, h2⟩, h3, h4⟩ := c
  exact V.list (fz.of h1 h3) (Vs.of_ints h2)
theorem Ct.inv {s : Shared} (c : Ct C cnt ca s) (I : Inv W C ρ s) (hl : ρ.lookup ("count" : Str) = some (AV.ref ca)) (hk : C.env.kindOf "count" = some .local) : Inv W C (upd ρ "count" (.list (cnt.map .int))) s where
  wf := I.wf
  ent := I.ent
  ns := by
    obtain ⟨m, hn, hm⟩ := I.ns
    refine ⟨m, hn, fun y A e q => ?_⟩
    rw [upd_look] at e
    by_cases hy : y = "count"
    · subst hy
      rw [if_pos rfl] at e; cases e
      obtain ⟨v, e1, e2⟩ := hm _ _ hl q
      have e2 : SC.V (fz s.heap C.mu) (.ref ca) v := e2
      obtain rfl := e2.ref_is
      exact ⟨_, e1, c.V⟩
    · rw [if_neg hy] at e
      exact hm y A e q
  cl := fun y A e q => by
    rw [upd_look] at e
    by_cases hy : y = "count"
    · subst hy; exact absurd hk q
    · rw [if_neg hy] at e; exact I.cl y A e q
  ce := I.ce
  mub := I.mub
  live := I.live
theorem count_add {p1 p2 p3 p4 : Pos} {e : Expr} {zs : List Int} {Q : Flow → Shared → Prop} {E : Value → Shared → Prop} {s : Shared} (c : Ct C cnt ca s) (I : Inv W C ρ s) (hl : ρ.lookup ("count" : Str) = some (AV.ref ca)) (hk : C.env.kindOf "count" = some .local)
    (he : Ev W true C (upd ρ "count" (.list (cnt.map .int))) e (.list (zs.map .int))) (hz : cnt.length + zs.length ≤ sizeLine) (hf : RFlat ρ)
    (k : ∀ ca' s', Stm true C s s' → Inv W C (upd ρ "count" (.ref ca')) s' → Ct C (cnt ++ zs) ca' s' → Q .next s')
    (hsw : swapsWith (.BinOp (.Name "count" p2) .Add e p3) (some (.Name "count" p1)) p4.line C.env = pure false := by rfl) :
    wpAny W.M C.A (exec (.Assign [.Name "count" p1] (.BinOp (.Name "count" p2) .Add e p3) p4) C.env) Q E s := by
  refine wpAny_Assign_Name (wpAny_BinOp ((Ev.loc (W := W) (p := true) (C := C) (ρ := ρ) (R := .ref ca) hl hk) s _ _ I fun v s1 x1 v1 => ?_)) hsw
  obtain rfl := v1.ref_is
  have c1 := c.ext x1
  have I1 := I.ext x1
  refine he s1 _ _ (c1.inv I1 hl hk) fun u s2 x2 v2 => ?_
  have c2 := c1.ext x2
  have I2 := I1.ext x2
  obtain ⟨b, n', ws, rfl, e2, k2⟩ := v2.list_is
  obtain ⟨⟨n, vs, ho, hvs⟩, hmu, hent⟩ := c2
  have ho2 := fz.get e2
  have hvl : vs.length = cnt.length := by have := (Vs.of_ints (g := fun _ => none) hvs).len; simpa using this
  have hwl : ws.length = zs.length := by have := k2.len; simpa using this
  have e : vs.toArray ++ ws.toArray = (vs ++ ws).toArray := by simp
  refine concat_meets ⟨_, ho, rfl⟩ ⟨_, ho2, rfl⟩ noFill_list_add seq_list_add PySem.F.slot_list_add PySem.F.entry_list_add (PySem.F.args_list_add_2 _ _) (list_addW ca b vs.toArray ws.toArray n n' none none #[] #[] (by simpa [hvl, hwl] using hz)) ⟨ho, ho2, ?_⟩
  rw [e]
  have x3 : Ext true s2 { s2 with heap := s2.heap.push (lstO (vs ++ ws) 0) } := Ext.push'
  have hD : (s2.heap.push (lstO (vs ++ ws) 0)).get? s2.heap.objs.size = some (lstO (vs ++ ws) 0) := Heap.get?_push_size _ rfl
  refine (Sto.loc (R := .ref s2.heap.objs.size) hk) _ (.ref s2.heap.objs.size) _ _ (I2.ext x3) V.ref fun s4 x4 I4 => ?_
  have hnew : s2.heap.objs.size ∉ C.mu := I2.new (get_size _)
  refine k _ s4 (((x1.trans x2).trans x3).stm.trans x4) I4 ⟨⟨0, vs ++ ws, x4.km _ _ (fun q => hnew (I2.wf.mo' q)) hD, ?_⟩, hnew, ?_⟩
  · exact (Vs.ints (g := fz s2.heap C.mu) (by rw [List.map_append]; exact (Vs.of_ints hvs).append k2))
  · cases e' : C.ent.get? s2.heap.objs.size with
    | none => rfl
    | some o => have := I2.ent _ _ e'; rw [get_size] at this; cases this
theorem count_set {p1 p2 p4 : Pos} {e i : Expr} {bi z : Int} {Q : Flow → Shared → Prop} {E : Value → Shared → Prop} {s : Shared} (c : Ct C cnt ca s) (I : Inv W C ρ s) (hl : ρ.lookup ("count" : Str) = some (AV.ref ca)) (hk : C.env.kindOf "count" = some .local)
    (he : Ev W true C (upd ρ "count" (.list (cnt.map .int))) e (.int z)) (hi : Ev W true C ρ i (.int bi)) (hb : 0 ≤ bi) (hb2 : bi < cnt.length) (hb3 : cnt.length ≤ 1000) (hf : RFlat ρ) (hoc : C.env.cells = []) (hown : C.own = none)
    (k : ∀ s', Glo true s s' → (∀ b o, b ≠ ca → s.heap.get? b = some o → s'.heap.get? b = some o) → Inv W C ρ s' → Ct C (cnt.set bi.toNat z) ca s' → Q .next s')
    (hsw : swapsWith e (some (.Subscript (.Name "count" p1) i p2)) p4.line C.env = pure false := by rfl) :
    wpAny W.M C.A (exec (.Assign [.Subscript (.Name "count" p1) i p2] e p4) C.env) Q E s := by
  refine wpAny_Assign_Subscript (he s _ _ (c.inv I hl hk) fun v s1 x1 v1 => ?_) hsw
  obtain ⟨tz, rfl⟩ := v1.int_is
  refine (Ev.loc (W := W) (p := true) (C := C) (ρ := ρ) (R := .ref ca) hl hk) s1 _ _ (I.ext x1) fun v s2 x2 v2 => ?_
  obtain rfl := v2.ref_is
  refine hi s2 _ _ ((I.ext x1).ext x2) fun v s3 x3 v3 => ?_
  obtain ⟨tb, rfl⟩ := v3.int_is
  have x13 := (x1.trans x2).trans x3
  have c3 := c.ext x13
  have I3 := I.ext x13
  obtain ⟨⟨n, vs, ho, hvs⟩, hmu, hent⟩ := c3
  have hvl : vs.length = cnt.length := by have := (Vs.of_ints (g := fun _ => none) hvs).len; simpa using this
  refine setItem_plain ho hb (by omega) (by omega) fun h' ho' sb => ?_
  have kk : ∀ b o, b ≠ ca → s3.heap.get? b = some o → h'.get? b = some o := fun b o nb e => (sb.2 b nb).trans e
  have I4 : Inv W C ρ { s3 with heap := h' } := I3.flat hf (fun b o e => kk b o (fun q => by rw [q, hent] at e; cases e) (I3.ent b o e)) (fun o e => kk _ o (fun q => hmu (q ▸ I3.wf.Lmu)) e) (fun y b e => by rw [hown] at e; cases e) (fun y q e => by rw [hoc] at e; cases e)
    (fun b hb => by
      obtain ⟨o, e⟩ := Option.isSome_iff_exists.mp (I3.mub b hb)
      show (h'.get? b).isSome = true
      rw [kk b o (fun q => hmu (q ▸ hb)) e]; rfl)
  refine k _ ⟨x13.dr, x13.os, x13.ge⟩ (fun b o nb e => kk b o nb (x13.kp b o e)) I4 ⟨⟨n, _, ho', ?_⟩, hmu, hent⟩
  have gen : ∀ {vs : List Value} {cnt : List Int} (j : Nat), IntsAre vs cnt → IntsAre (vs.set j (.int z tz)) (cnt.set j z) := by
    intro vs cnt j h
    induction h generalizing j with
    | nil => exact .nil
    | cons n t _ ih =>
      cases j with
      | zero => exact .cons z tz (by assumption)
      | succ j => exact .cons n t (ih j)
  exact gen _ hvs
end
end SC
namespace SC
open PySem PySem.Spec PySem.Calls PyProof.Rows PySem.W
set_option maxRecDepth 100000
structure WsS where
  n : Int
  nt : Int
  b : Int
  cnt : List Int
def tabC (b : Int) (cnt : List Int) : List Int := if (cnt.length : Int) ≤ b then cnt ++ List.replicate (b - cnt.length + 1).toNat 0 else cnt
def tabD (b : Int) (cnt : List Int) : List Int := (tabC b cnt).set b.toNat ((tabC b cnt).getD b.toNat 0 + 1)
def wsRun : WsS → List Str → WsS
  | st, [] => st
  | st, ch :: r => if ch == " " then wsRun ⟨st.n + 1, st.nt, st.b + 1, st.cnt⟩ r else if ch == "\t" then wsRun ⟨st.n + 1, st.nt + 1, 0, tabD st.b st.cnt⟩ r else st
def rW (st : WsS) (ca x : Addr) : Rho := [("n", .int st.n), ("nt", .int st.nt), ("b", .int st.b), ("count", .ref ca), ("S", .str " "), ("T", .str "\t"), ("self", .ref x)]
theorem rW_flat (st : WsS) (ca x : Addr) : RFlat (rW st ca x) := RFlat.cons rfl (RFlat.cons rfl (RFlat.cons rfl (RFlat.cons rfl (RFlat.cons rfl (RFlat.cons rfl (RFlat.cons rfl RFlat.nil))))))
theorem tabC_len (b : Int) (cnt : List Int) (hb : 0 ≤ b) (N : Nat) (h1 : b < N) (h2 : cnt.length ≤ N) : b < (tabC b cnt).length ∧ (tabC b cnt).length ≤ N := by
  unfold tabC
  split
  · rw [List.length_append, List.length_replicate]; omega
  · omega
def frI (Ar : Around) (L f : Addr) (pm cd doc : Value) (ent : Heap) (mu : List Addr) : Fc :=
  { A := Ar.deeper (callEnvC (initF pm cd doc) L f), env := callEnvC (initF pm cd doc) L f, ent := ent, mu := L :: mu, own := none, oc := fun _ => false }
def loopBody : List Stmt := match nth initD.body 4 with
  | .For _ _ b _ _ => b
  | _ => []
def ifParts : Stmt → List Stmt × List Stmt
  | .If _ a b _ => (a, b)
  | _ => ([], [])
def tabRest : List Stmt := (ifParts (nth (ifParts (nth loopBody 0)).2 0)).1.drop 3
section
variable {W : Wd} {Ar : Around} {L f x dx Cl : Addr} {pm cd doc : Value} {ent : Heap} {mu : List Addr} {mA : Str → Option Value}
set_option maxHeartbeats 2000000 in
theorem ws_body (O : OkW W) {I : Addr} (st : WsS) (ca : Addr) (ch : Str) {s : Shared} {Q : Flow → Shared → Prop} {E : Value → Shared → Prop} (a : Ap ((frI Ar L f pm cd doc ent mu).adm I) x dx) (hx : x ∈ mu) (hdx : dx ∈ mu) (hIL : I ≠ L)
    (F : Fo W ((frI Ar L f pm cd doc ent mu).adm I) (upd (rW st ca x) "ch" (.str ch)) x dx Cl mA s) (ct : Ct ((frI Ar L f pm cd doc ent mu).adm I) st.cnt ca s) (N : Nat) (hN : N ≤ 900) (hb0 : 0 ≤ st.b) (hbN : st.b < N) (hcN : st.cnt.length ≤ N)
    (k : ∀ fl st' ca' s', (if ch == " " then fl = .next ∧ st' = ⟨st.n + 1, st.nt, st.b + 1, st.cnt⟩ else if ch == "\t" then fl = .next ∧ st' = ⟨st.n + 1, st.nt + 1, 0, tabD st.b st.cnt⟩ else fl = .brk ∧ st' = st) → Glo true s s' →
      (∀ o, s.heap.get? I = some o → s'.heap.get? I = some o) → Fo W ((frI Ar L f pm cd doc ent mu).adm I) (rW st' ca' x) x dx Cl mA s' → Ct ((frI Ar L f pm cd doc ent mu).adm I) st'.cnt ca' s' → Q fl s') :
    wpAny W.M (frI Ar L f pm cd doc ent mu).A (execs loopBody (frI Ar L f pm cd doc ent mu).env) Q E s := by
  have IL : ∀ {s1 s2 : Shared}, Stm true ((frI Ar L f pm cd doc ent mu).adm I) s1 s2 → ∀ o, s1.heap.get? I = some o → s2.heap.get? I = some o := fun {s1 s2} X o e => by
    exact X.km I o (fun q => hIL (a.mo q)) e
  refine wpAny_execs_cons (wpAny_If ((Tr.cmp (W := W) (p := true) (C := (frI Ar L f pm cd doc ent mu).adm I) (Ev.loc rfl rfl) (Ev.loc rfl rfl) (Cmp.seq ch " ")) s _ _ F.inv fun s1 x1 => ?_))
  have F1 := F.stm a x1.stm (F.inv.ext x1)
  have ct1 := ct.ext x1
  by_cases h1 : (ch == " ") = true
  · rw [if_pos h1]
    refine (Exs.cons (W := W) (p := true) (C := (frI Ar L f pm cd doc ent mu).adm I) (Ex.assign (Ev.bin (Ev.loc (x := "n") rfl rfl) Ev.cint (Bin.add _ _)) (Sto.loc rfl)) (Exs.cons (Ex.assign (Ev.bin (Ev.loc (x := "b") rfl rfl) Ev.cint (Bin.add _ _)) (Sto.loc rfl)) Exs.nil)) s1 _ _ F1.inv fun fl s2 x2 I2 e2 => ?_
    obtain rfl : fl = .next := e2
    refine wpAny_execs_nil (k .next ⟨st.n + 1, st.nt, st.b + 1, st.cnt⟩ ca s2 (by rw [if_pos h1]; exact ⟨rfl, rfl⟩) (x1.toGlo.trans x2.toGlo) (fun o e => IL x2 o (x1.kp _ _ e)) ?_ (ct1.stm F.inv.wf x2))
    exact F1.stm a x2 (I2.weak (Sub.cons rfl (Sub.cons rfl (Sub.cons rfl (Sub.cons rfl (Sub.cons rfl (Sub.cons rfl (Sub.cons rfl Sub.nil))))))))
  · rw [if_neg h1]
    refine wpAny_execs_cons (wpAny_If ((Tr.cmp (W := W) (p := true) (C := (frI Ar L f pm cd doc ent mu).adm I) (Ev.loc rfl rfl) (Ev.loc rfl rfl) (Cmp.seq ch "\t")) s1 _ _ F1.inv fun s2 x2 => ?_))
    have F2 := F1.stm a x2.stm (F1.inv.ext x2)
    have ct2 := ct1.ext x2
    by_cases h2 : (ch == "\t") = true
    · rw [if_pos h2]
      obtain ⟨tl, tl2⟩ := tabC_len st.b st.cnt hb0 N hbN hcN
      have fin : ∀ (ca' : Addr) (s6 : Shared), Glo true s s6 → (∀ o, s.heap.get? I = some o → s6.heap.get? I = some o) → Fo W ((frI Ar L f pm cd doc ent mu).adm I) (rW ⟨st.n + 1, st.nt + 1, st.b, tabC st.b st.cnt⟩ ca' x) x dx Cl mA s6 → Ct ((frI Ar L f pm cd doc ent mu).adm I) (tabC st.b st.cnt) ca' s6 →
          ∀ Q' : Flow → Shared → Prop, (∀ s', Q .next s' → Q' .next s') → wpAny W.M (frI Ar L f pm cd doc ent mu).A (execs tabRest (frI Ar L f pm cd doc ent mu).env) Q' E s6 := fun ca' s6 g6 i6 F6 ct6 Q' hQ' => by
        have hg : ((tabC st.b st.cnt).map AV.int)[st.b.toNat]? = some (.int ((tabC st.b st.cnt).getD st.b.toNat 0)) := by
          rw [List.getElem?_map, List.getD_eq_getElem?_getD, List.getElem?_eq_getElem (by omega)]; rfl
        refine wpAny_execs_cons (count_set (C := (frI Ar L f pm cd doc ent mu).adm I) (bi := st.b) (z := (tabC st.b st.cnt).getD st.b.toNat 0 + 1) ct6 F6.inv rfl rfl (Ev.bin (Ev.sub1 (Ev.loc (x := "count") rfl rfl) (Ev.loc (x := "b") rfl rfl) (Sub1.list _ _ (.int ((tabC st.b st.cnt).getD st.b.toNat 0)) hb0 (by show st.b < _; omega) hg)) Ev.cint (Bin.add _ _)) (Ev.loc (x := "b") rfl rfl) hb0 tl (by omega) (rW_flat _ _ _) rfl rfl fun s7 g7 k7 I7 ct7 => ?_)
        have nI : I ≠ ca' := fun q => ct6.mu (q ▸ .head _)
        have nx : x ≠ ca' := fun q => ct6.mu (q ▸ .tail _ (.tail _ hx))
        have nd : dx ≠ ca' := fun q => ct6.mu (q ▸ .tail _ (.tail _ hdx))
        have F7 := F6.keep I7 (fun o e => k7 x o nx e) (fun o e => k7 dx o nd e)
        refine go_ex (C := (frI Ar L f pm cd doc ent mu).adm I) a (Ex.assign (W := W) (p := true) (C := (frI Ar L f pm cd doc ent mu).adm I) Ev.cint (Sto.loc rfl)) F7 fun s8 x8 F8 => wpAny_execs_nil (hQ' _ ?_)
        refine k .next ⟨st.n + 1, st.nt + 1, 0, tabD st.b st.cnt⟩ ca' s8 (by rw [if_neg h1, if_pos h2]; exact ⟨rfl, rfl⟩) ((g6.trans g7).trans x8.toGlo) (fun o e => IL x8 o (k7 I o nI (i6 o e))) ?_ (ct7.stm F.inv.wf x8)
        exact F8.stm a (Stm.refl _ _ _) (F8.inv.weak (Sub.cons rfl (Sub.cons rfl (Sub.cons rfl (Sub.cons rfl (Sub.cons rfl (Sub.cons rfl (Sub.cons rfl Sub.nil))))))))
      refine go_ex (C := (frI Ar L f pm cd doc ent mu).adm I) a (Ex.assign (W := W) (p := true) (C := (frI Ar L f pm cd doc ent mu).adm I) (Ev.bin (Ev.loc (x := "n") rfl rfl) Ev.cint (Bin.add _ _)) (Sto.loc rfl)) F2 fun s3 x3 F3 => ?_
      refine go_ex (C := (frI Ar L f pm cd doc ent mu).adm I) a (Ex.assign (W := W) (p := true) (C := (frI Ar L f pm cd doc ent mu).adm I) (Ev.bin (Ev.loc (x := "nt") rfl rfl) Ev.cint (Bin.add _ _)) (Sto.loc rfl)) F3 fun s4 x4 F4 => ?_
      have ct4 := (ct2.stm F.inv.wf x3).stm F.inv.wf x4
      have g4 : Glo true s s4 := ((x1.toGlo.trans x2.toGlo).trans x3.toGlo).trans x4.toGlo
      have i4 : ∀ o, s.heap.get? I = some o → s4.heap.get? I = some o := fun o e => IL x4 o (IL x3 o (x2.kp _ _ (x1.kp _ _ e)))
      have F4' := F4.stm a (Stm.refl _ _ _) (F4.inv.weak (ρ' := rW ⟨st.n + 1, st.nt + 1, st.b, st.cnt⟩ ca x) (Sub.cons rfl (Sub.cons rfl (Sub.cons rfl (Sub.cons rfl (Sub.cons rfl (Sub.cons rfl (Sub.cons rfl Sub.nil))))))))
      have hlen : ∀ {ρ : Rho}, ρ.lookup ("count" : Str) = some (AV.list (st.cnt.map .int)) → ∀ {p1 p2 p3 : Pos}, Ev W true ((frI Ar L f pm cd doc ent mu).adm I) ρ (.Call (.Name "len" p1) [.Name "count" p2] [] p3) (.int st.cnt.length) := fun {ρ} hr {p1 p2 p3} => by
        have := Ev.bcall (W := W) (p := true) (C := (frI Ar L f pm cd doc ent mu).adm I) (ρ := ρ) (x := "len") (id := "len") (pos := p3) (pos' := p1) (Evs.cons (Ev.loc (x := "count") (pos := p2) hr rfl) Evs.nil) (Bui.len_list _ (by rw [List.length_map]; omega)) (by decide +kernel) rfl (O.free _ (by decide))
        rw [List.length_map] at this; exact this
      refine wpAny_execs_cons (wpAny_If ((Tr.cmp (W := W) (p := true) (C := (frI Ar L f pm cd doc ent mu).adm I) (Ev.loc (x := "b") rfl rfl) (hlen rfl) (Cmp.ge st.b st.cnt.length)) s4 _ _ (ct4.inv F4'.inv rfl rfl) fun s5 x5 => ?_))
      have F5 := F4'.stm a x5.stm (F4'.inv.ext x5)
      have ct5 := ct4.ext x5
      by_cases h3 : (st.cnt.length : Int) ≤ st.b
      · rw [if_pos (decide_eq_true h3)]
        have e3 : tabC st.b st.cnt = st.cnt ++ List.replicate (st.b - st.cnt.length + 1).toNat 0 := if_pos h3
        refine wpAny_execs_cons (count_add (C := (frI Ar L f pm cd doc ent mu).adm I) (zs := List.replicate (st.b - st.cnt.length + 1).toNat 0) ct5 F5.inv rfl rfl ?_ (by rw [List.length_replicate]; unfold sizeLine; omega) (rW_flat _ _ _) fun ca' s6 x6 I6 ct6 => wpAny_execs_nil ?_)
        · have hm := Bin.list_mul (prog := W.prog) (w := W.w) [.int 0] (st.b - st.cnt.length + 1) (by simp; omega) (by omega) (by omega) (by simp)
          have em : (List.replicate (st.b - st.cnt.length + 1).toNat [AV.int 0]).flatten = (List.replicate (st.b - st.cnt.length + 1).toNat (0 : Int)).map AV.int := by simp
          rw [em] at hm
          exact Ev.bin (Ev.listd (Evs.cons Ev.cint Evs.nil) (by unfold sizeLine; simp)) (Ev.bin (Ev.bin (Ev.loc (x := "b") rfl rfl) (hlen rfl) (Bin.sub _ _)) Ev.cint (Bin.add _ _)) hm
        · refine fin ca' s6 ((g4.trans x5.toGlo).trans x6.toGlo) (fun o e => IL x6 o (x5.kp _ _ (i4 o e))) ?_ (e3 ▸ ct6) _ (fun s' hq => wpAny_execs_nil (wpAny_execs_nil hq))
          exact F5.stm a x6 (I6.weak (Sub.cons rfl (Sub.cons rfl (Sub.cons rfl (Sub.cons rfl (Sub.cons rfl (Sub.cons rfl (Sub.cons rfl Sub.nil))))))))
      · rw [if_neg (by rw [decide_eq_false h3]; decide)]
        have e3 : tabC st.b st.cnt = st.cnt := if_neg h3
        refine wpAny_execs_nil (fin ca s5 (g4.trans x5.toGlo) (fun o e => x5.kp _ _ (i4 o e)) ?_ (e3.symm ▸ ct5) _ (fun s' hq => wpAny_execs_nil (wpAny_execs_nil hq)))
        rw [e3]; exact F5
    · rw [if_neg h2]
      refine (Exs.stop (W := W) (p := true) (C := (frI Ar L f pm cd doc ent mu).adm I) Ex.brk (by simp)) s2 _ _ F2.inv fun fl s3 x3 I3 e3 => ?_
      obtain rfl : fl = .brk := e3
      refine k .brk st ca s3 (by rw [if_neg h1, if_neg h2]; exact ⟨rfl, rfl⟩) ((x1.toGlo.trans x2.toGlo).trans x3.toGlo) (fun o e => IL x3 o (x2.kp _ _ (x1.kp _ _ e))) ?_ (ct2.stm F.inv.wf x3)
      exact F2.stm a x3 (I3.weak (Sub.cons rfl (Sub.cons rfl (Sub.cons rfl (Sub.cons rfl (Sub.cons rfl (Sub.cons rfl (Sub.cons rfl Sub.nil))))))))
end
end SC
namespace SC
open PySem PySem.Spec PySem.Calls PyProof.Rows PySem.W
set_option maxRecDepth 100000
theorem Ap.adm {C : Fc} {x dx : Addr} (a : Ap C x dx) (I : Addr) : Ap (C.adm I) x dx := ⟨a.ex, a.ed, a.xL, a.dL, a.own, a.cel, a.oc⟩
theorem raw_none : typeLookup (.type "object") "raw" = pure none := by rw [typeLookup_type, builtinLookup_eq_fast]; kernel_rfl
theorem norm_none : typeLookup (.type "object") "norm" = pure none := by rw [typeLookup_type, builtinLookup_eq_fast]; kernel_rfl
theorem n_none : typeLookup (.type "object") "n" = pure none := by rw [typeLookup_type, builtinLookup_eq_fast]; kernel_rfl
theorem nt_none : typeLookup (.type "object") "nt" = pure none := by rw [typeLookup_type, builtinLookup_eq_fast]; kernel_rfl
theorem simple_none : typeLookup (.type "object") "is_simple" = pure none := by rw [typeLookup_type, builtinLookup_eq_fast]; kernel_rfl
theorem wsRun_cons (st : WsS) (ch : Str) (r : List Str) : wsRun st (ch :: r) = if ch == " " then wsRun ⟨st.n + 1, st.nt, st.b + 1, st.cnt⟩ r else if ch == "\t" then wsRun ⟨st.n + 1, st.nt + 1, 0, tabD st.b st.cnt⟩ r else st := rfl
def loopTgt : Expr := match nth initD.body 4 with
  | .For t _ _ _ _ => t
  | _ => .Constant .none 0 ⟨0, 0, 0, 0⟩
section
variable {W : Wd} {Ar : Around} {L f x dx Cl N fi : Addr} {mN : Str → Option Value} {pm cd doc : Value} {ent : Heap} {mu : List Addr} {mA : Str → Option Value}
set_option maxHeartbeats 2000000 in
theorem ws_for (O : OkW W) (OC : OkC W Cl N fi mN) {ca : Addr} {ws : Str} {tw : Tok} {s : Shared} {Q : Flow → Shared → Prop} {E : Value → Shared → Prop} (a : Ap (frI Ar L f pm cd doc ent mu) x dx) (hx : x ∈ mu) (hdx : dx ∈ mu)
    (F : Fo W (frI Ar L f pm cd doc ent mu) (rW ⟨0, 0, 0, []⟩ ca x) x dx Cl mA s) (ct : Ct (frI Ar L f pm cd doc ent mu) [] ca s) (hraw : mA "raw" = some (.str ws tw)) (hws : ws.length ≤ 800)
    (k : ∀ ca' s', Glo true s s' → Fo W (frI Ar L f pm cd doc ent mu) (rW (wsRun ⟨0, 0, 0, []⟩ (chars ws)) ca' x) x dx Cl mA s' → Ct (frI Ar L f pm cd doc ent mu) (wsRun ⟨0, 0, 0, []⟩ (chars ws)).cnt ca' s' → (wsRun ⟨0, 0, 0, []⟩ (chars ws)).cnt.length ≤ 801 → Q .next s') :
    wpAny W.M (frI Ar L f pm cd doc ent mu).A (exec (nth initD.body 4) (frI Ar L f pm cd doc ent mu).env) Q E s := by
  refine wpAny_For ?_ (by intro _; rfl)
  refine Attribute_Name_ ((Ev.loc (W := W) (p := true) (C := frI Ar L f pm cd doc ent mu) (x := "self") (R := .ref x) rfl rfl) s _ _ F.inv fun u s1 x1 v1 => ?_) (by with_unfolding_all rfl)
  obtain rfl := v1.ref_is
  have F1 := F.stm a x1.stm (F.inv.ext x1)
  have ct1 := ct.ext x1
  obtain ⟨⟨nm, q, bs, sn, sub, col, dd, k0, k1, k2, k3, k5, h1⟩, h2, h3, h4, _⟩ := OC.cls _ F1.inv.B
  obtain ⟨hp, g, d, t, os⟩ := s1
  refine load_attr h1 h2 (h4 _ (by simp)) (h4 _ (by simp)) raw_none F1.inst hraw rfl ?_
  have x2 : Ext true s ⟨hp, g, d, t + 1, os⟩ := ⟨⟨x1.dr, x1.os, x1.ge⟩, x1.kp⟩
  have hcs : (chars ws).length = ws.cps.size := by simp [chars]
  have hwz : ws.cps.size ≤ 800 := hws
  have go : ∀ (cls : String) (hW : ∀ I, Walks W.prog W.w (frI Ar L f pm cd doc ent mu).A I [I] [I] ws.cps.size (SignAt ws) (fun i h => h.IsStrIter I cls ws tw i)),
      codeAny W.M (frI Ar L f pm cd doc ent mu).A (.forLoop loopTgt (.ref hp.objs.size) loopBody [] (frI Ar L f pm cd doc ent mu).env) (fun r s' => match r with | .ok f => Q f s' | .error e => cameBackBy W.M (frI Ar L f pm cd doc ent mu).A (frI Ar L f pm cd doc ent mu).env E e s')
        ⟨hp.push { cls := .type cls, data := .fields #[.str ws tw, .int 0 0] }, g, d, t + 1, os⟩ := fun cls hW => by
    generalize hI : hp.objs.size = I
    have hfresh : hp.get? I = none := by rw [← hI]; exact get_size _
    have st0 : (hp.push { cls := .type cls, data := .fields #[.str ws tw, .int 0 0] }).IsStrIter I cls ws tw 0 := by rw [← hI]; exact ⟨_, Heap.get?_push_size _ rfl, rfl, rfl⟩
    have hmu : I ∉ (frI Ar L f pm cd doc ent mu).mu := F1.inv.new hfresh
    have hIL : I ≠ L := fun q => hmu (q ▸ .head _)
    have hlive : ((hp.push { cls := .type cls, data := .fields #[.str ws tw, .int 0 0] }).get? I).isSome = true := by
      obtain ⟨o, e, _⟩ := st0
      rw [e]; rfl
    have Ia : Inv W ((frI Ar L f pm cd doc ent mu).adm I) (rW ⟨0, 0, 0, []⟩ ca x) ⟨hp.push { cls := .type cls, data := .fields #[.str ws tw, .int 0 0] }, g, d, t + 1, os⟩ := (F1.inv.kp (s' := ⟨hp, g, d, t + 1, os⟩) fun _ _ e => e).adm hfresh (kpush _ _) hlive
    have Fa : Fo W ((frI Ar L f pm cd doc ent mu).adm I) (rW ⟨0, 0, 0, []⟩ ca x) x dx Cl mA ⟨hp.push { cls := .type cls, data := .fields #[.str ws tw, .int 0 0] }, g, d, t + 1, os⟩ := by
      obtain ⟨i1, i2, i3⟩ := F1
      obtain ⟨o, e1, e2, e3, e4⟩ := i2
      have hdx := i3 o e1
      refine ⟨Ia, ⟨o, kpush _ _ _ _ e1, e2, e3, ?_⟩, fun o' e => by have := kpush hp { cls := .type cls, data := .fields #[.str ws tw, .int 0 0] } _ _ e1; rw [this] at e; cases e; exact hdx⟩
      rcases e4 with ⟨e4, e5⟩ | ⟨d', e4, e5, e6⟩
      · exact .inl ⟨e4, e5⟩
      · exact .inr ⟨d', e4, e5, e6.at fun o e => kpush _ _ _ _ e⟩
    have cta : Ct ((frI Ar L f pm cd doc ent mu).adm I) [] ca ⟨hp.push { cls := .type cls, data := .fields #[.str ws tw, .int 0 0] }, g, d, t + 1, os⟩ := by
      obtain ⟨⟨n, vs, e1, e2⟩, e3, e4⟩ := ct1
      refine ⟨⟨n, vs, kpush _ _ _ _ e1, e2⟩, fun q => ?_, e4⟩
      rcases List.mem_cons.mp q with q | q
      · subst q; rw [hfresh] at e1; cases e1
      · exact e3 q
    have Wk := hW I
    refine codeAny_forLoop (prog := W.prog) (w := W.w) (fun n s' => ∃ i st ca', n = ws.cps.size - i ∧ i ≤ ws.cps.size ∧ wsRun st ((chars ws).drop i) = wsRun ⟨0, 0, 0, []⟩ (chars ws) ∧ 0 ≤ st.b ∧ st.b ≤ i ∧ st.cnt.length ≤ 801 ∧ Fo W ((frI Ar L f pm cd doc ent mu).adm I) (rW st ca' x) x dx Cl mA s' ∧
      Ct ((frI Ar L f pm cd doc ent mu).adm I) st.cnt ca' s' ∧ s'.heap.IsStrIter I cls ws tw i ∧ Glo true s s') ?_ ws.cps.size
      ⟨0, ⟨0, 0, 0, []⟩, ca, rfl, Nat.zero_le _, by simp, Int.le_refl _, by simp, by simp, Fa, cta, st0, ⟨x2.dr, x2.os, x2.ge⟩⟩
    rintro n s' ⟨i, st, ca', rfl, hi, hrun, hb0, hbi, hcl, Fi, ci, sti, gi⟩
    have keepI : ∀ {ρ : Rho} {h' : Heap} {tk : Nat}, RFlat ρ → Fo W ((frI Ar L f pm cd doc ent mu).adm I) ρ x dx Cl mA s' → (∀ b o, b ∉ [I] → s'.heap.get? b = some o → h'.get? b = some o) → (h'.get? I).isSome = true → Fo W ((frI Ar L f pm cd doc ent mu).adm I) ρ x dx Cl mA { s' with heap := h', toks := tk } := fun {ρ h' tk} hf Fi hk hl => by
      have hk' : ∀ b o, b ≠ I → s'.heap.get? b = some o → h'.get? b = some o := fun b o nb e => hk b o (by simpa using nb) e
      have hent : (frI Ar L f pm cd doc ent mu).ent.get? I = none := by
        cases e : (frI Ar L f pm cd doc ent mu).ent.get? I with
        | none => rfl
        | some o => have := F1.inv.ent _ _ e; rw [hfresh] at this; cases this
      refine Fi.keep (Fi.inv.flat hf (fun b o e => hk' b o (fun q => by rw [q] at e; rw [show ((frI Ar L f pm cd doc ent mu).adm I).ent.get? I = none from hent] at e; cases e) (Fi.inv.ent b o e)) (fun o e => hk' _ o (Ne.symm hIL) e) (fun _ _ h => by cases h) (fun _ _ h => by cases h) fun b hb => ?_) (fun o e => hk' x o (fun q => hmu (q ▸ .tail _ hx)) e) (fun o e => hk' dx o (fun q => hmu (q ▸ .tail _ hdx)) e)
      by_cases q : b = I
      · subst q; exact hl
      · obtain ⟨o, e⟩ := Option.isSome_iff_exists.mp (Fi.inv.mub b hb)
        show (h'.get? b).isSome = true
        rw [hk' b o q e]; rfl
    have out : ∀ {s'' : Shared} {st' : WsS} {ca'' : Addr}, wsRun ⟨0, 0, 0, []⟩ (chars ws) = st' → Glo true s s'' → Fo W ((frI Ar L f pm cd doc ent mu).adm I) (rW st' ca'' x) x dx Cl mA s'' → Ct ((frI Ar L f pm cd doc ent mu).adm I) st'.cnt ca'' s'' → st'.cnt.length ≤ 801 → Q .next s'' := fun {s'' st' ca''} e gg FF cc hh => by
      subst e
      refine k ca'' s'' gg ⟨FF.inv.unadm F.inv.wf, FF.inst, FF.dict⟩ ?_ hh
      obtain ⟨e1, e2, e3⟩ := cc
      exact ⟨e1, fun q => e2 (.tail _ q), e3⟩
    by_cases hlt : i < ws.cps.size
    · have hc : (chars ws)[i]? = some ⟨#[ws.cps[i]]⟩ := by simp [chars, hlt]
      have hd : (chars ws).drop i = ⟨#[ws.cps[i]]⟩ :: (chars ws).drop (i + 1) := by
        rw [List.drop_eq_getElem_cons (by rw [hcs]; exact hlt)]
        congr 1
        simp [chars]
      rw [hd, wsRun_cons] at hrun
      refine Wk.item i s' _ _ hlt sti fun v h1 tk1 hPv st1 k1 => ?_
      obtain ⟨c, u, e1, rfl⟩ := hPv
      have ec : (⟨#[ws.cps[i]]⟩ : Str) = ⟨#[c]⟩ := by
        rw [Array.getElem?_eq_getElem hlt] at e1; cases e1; rfl
      rw [ec] at hrun
      have hl1 : (h1.get? I).isSome = true := by obtain ⟨o, e, _⟩ := st1; rw [e]; rfl
      have FF := keepI (tk := tk1) (rW_flat st ca' x) Fi k1 hl1
      have nI : I ≠ ca' := fun q => ci.mu (q ▸ .head _)
      have cc : Ct ((frI Ar L f pm cd doc ent mu).adm I) st.cnt ca' { s' with heap := h1, toks := tk1 } := ci.keep fun o e => k1 _ o (by simp; exact Ne.symm nI) e
      refine PyProof.Rows.assign_Name ((Sto.loc (W := W) (C := (frI Ar L f pm cd doc ent mu).adm I) (x := "ch") (R := .str ⟨#[c]⟩) rfl) _ (.str ⟨#[c]⟩ u) _ _ FF.inv V.str fun s3 x3 I3 => ?_)
      have F3 := FF.stm (a.adm I) x3 I3
      have c3 := cc.stm FF.inv.wf x3
      have st3 : s3.heap.IsStrIter I cls ws tw (i + 1) := by
        obtain ⟨o, e, r⟩ := st1
        exact ⟨o, x3.km I o (fun q => hIL ((a.adm I).mo q)) e, r⟩
      refine ws_body O st ca' ⟨#[c]⟩ (a.adm I) hx hdx hIL F3 c3 802 (by omega) hb0 (by omega) (by omega) (fun fl st' ca'' s4 hfl g4 i4 F4 c4 => ?_)
      have st4 : s4.heap.IsStrIter I cls ws tw (i + 1) := by
        obtain ⟨o, e, r⟩ := st3
        exact ⟨o, i4 o e, r⟩
      have gg : Glo true s s4 := (gi.trans ⟨x3.dr, x3.os, x3.ge⟩).trans g4
      by_cases q1 : ((⟨#[c]⟩ : Str) == " ") = true
      · rw [if_pos q1] at hfl hrun
        obtain ⟨rfl, rfl⟩ := hfl
        exact ⟨_, by omega, i + 1, _, ca'', rfl, hlt, hrun, by show 0 ≤ st.b + 1; omega, by show st.b + 1 ≤ _; push_cast; omega, hcl, F4, c4, st4, gg⟩
      · rw [if_neg q1] at hfl hrun
        by_cases q2 : ((⟨#[c]⟩ : Str) == "\t") = true
        · rw [if_pos q2] at hfl hrun
          obtain ⟨rfl, rfl⟩ := hfl
          have tl := (tabC_len st.b st.cnt hb0 801 (by omega) hcl).2
          exact ⟨_, by omega, i + 1, _, ca'', rfl, hlt, hrun, Int.le_refl _, by show (0 : Int) ≤ _; omega, by show (tabD st.b st.cnt).length ≤ 801; unfold tabD; rw [List.length_set]; exact tl, F4, c4, st4, gg⟩
        · rw [if_neg q2] at hfl hrun
          obtain ⟨rfl, rfl⟩ := hfl
          exact out hrun.symm gg F4 c4 hcl
    · have hin : i = ws.cps.size := by omega
      subst hin
      refine Wk.done s' _ _ sti fun h1 tk1 k1 => wpAny_execs_nil ?_
      have k1' : ∀ b o, b ≠ I → s'.heap.get? b = some o → h1.get? b = some o := fun b o nb e => k1 b o (by simpa using nb) e
      have hent : (frI Ar L f pm cd doc ent mu).ent.get? I = none := by
        cases e : (frI Ar L f pm cd doc ent mu).ent.get? I with
        | none => rfl
        | some o => have := F1.inv.ent _ _ e; rw [hfresh] at this; cases this
      have I5 : Inv W (frI Ar L f pm cd doc ent mu) (rW st ca' x) { s' with heap := h1, toks := tk1 } := Fi.inv.leave F.inv.wf k1' hent (fun q => hIL (a.mo q)) (fun _ h => by cases h) hmu
      have e2 : wsRun ⟨0, 0, 0, []⟩ (chars ws) = st := by rw [← hrun, show (chars ws).drop ws.cps.size = [] by rw [← hcs]; simp]; rfl
      obtain ⟨c1, c2, c3⟩ := ci
      have nI : I ≠ ca' := fun q => c2 (q ▸ .head _)
      have FF : Fo W (frI Ar L f pm cd doc ent mu) (rW st ca' x) x dx Cl mA { s' with heap := h1, toks := tk1 } := by
        obtain ⟨o, e1, e3, e4, e5⟩ := Fi.inst
        have hdo := Fi.dict o e1
        have kx := k1' x o (fun q => hmu (q ▸ .tail _ hx)) e1
        refine ⟨I5, ⟨o, kx, e3, e4, ?_⟩, fun o' e => by have e : h1.get? x = some o' := e; rw [kx] at e; cases e; exact hdo⟩
        rcases e5 with ⟨e5, e6⟩ | ⟨d', e5, e6, e7⟩
        · exact .inl ⟨e5, e6⟩
        · rw [hdo] at e5; cases e5
          exact .inr ⟨dx, hdo, e6, e7.at fun o e => k1' dx o (fun q => hmu (q ▸ .tail _ hdx)) e⟩
      subst e2
      refine k ca' _ ⟨gi.dr, gi.os, gi.ge⟩ FF ⟨?_, fun q => c2 (.tail _ q), c3⟩ hcl
      obtain ⟨n, vs, e1, e2⟩ := c1
      exact ⟨n, vs, k1' _ _ (Ne.symm nI) e1, e2⟩
  cases ha : ws.cps.all (· < 128)
  · exact wpAny_pyIter_wide ha (go _ fun I' => Walks.strWide F.inv.wf.rm.hd I' ws tw)
  · exact wpAny_pyIter_ascii ha (go _ fun I' => Walks.strAscii F.inv.wf.rm.hd I' ws tw)
end
end SC
namespace SC
open PySem PySem.Spec PySem.Calls PyProof.Rows PySem.W
set_option maxRecDepth 100000
section
variable {W : Wd} {C : Fc} {ρ : Rho} {Cl N fi : Addr} {mN : Str → Option Value}
theorem Ev.clsS (OC : OkC W Cl N fi mN) {p1 p2 : Pos} (hk : C.env.kindOf "Whitespace" = some .globalImplicit) : Ev W true C ρ (.Attribute (.Name "Whitespace" p1) "S" p2) (.str " ") := by
  intro s Q E I k
  refine Attribute_Name_ (Name_function_global I.wf.kind hk (loadGlobal_global (by rw [I.wf.gl]; exact I.G.g) OC.g ?_) (by decide)) (by with_unfolding_all rfl)
  exact OC.attS _ _ _ _ _ I.B fun t => k _ _ Ext.tok V.str
theorem Ev.clsT (OC : OkC W Cl N fi mN) {p1 p2 : Pos} (hk : C.env.kindOf "Whitespace" = some .globalImplicit) : Ev W true C ρ (.Attribute (.Name "Whitespace" p1) "T" p2) (.str "\t") := by
  intro s Q E I k
  refine Attribute_Name_ (Name_function_global I.wf.kind hk (loadGlobal_global (by rw [I.wf.gl]; exact I.G.g) OC.g ?_) (by decide)) (by with_unfolding_all rfl)
  exact OC.attT _ _ _ _ _ I.B fun t => k _ _ Ext.tok V.str
end
def normA (ws : Str) : AV := .tup [.tup ((wsRun ⟨0, 0, 0, []⟩ (chars ws)).cnt.map .int), .int (wsRun ⟨0, 0, 0, []⟩ (chars ws)).b]
section
variable {W : Wd} {Ar : Around} {L x dx Cl N fi : Addr} {mN : Str → Option Value} {pm cd doc : Value} {ent : Heap} {mu : List Addr}
set_option maxHeartbeats 4000000 in
theorem init_body (O : OkW W) (OC : OkC W Cl N fi mN) {ws : Str} {s : Shared} {Q : Flow → Shared → Prop} {E : Value → Shared → Prop} (a : Ap (frI Ar L fi pm cd doc ent mu) x dx) (hx : x ∈ mu) (hdx : dx ∈ mu) (hxC : x ≠ Cl)
    (F : Fo W (frI Ar L fi pm cd doc ent mu) [("self", .ref x), ("ws", .str ws)] x dx Cl (fun _ => none) s) (hws : ws.length ≤ 800)
    (k : ∀ s' mA vn, Glo true s s' → Fo W (frI Ar L fi pm cd doc ent mu) [] x dx Cl mA s' → mA "norm" = some vn → V (fz s'.heap mu) (normA ws) vn → Q .next s') :
    wpAny W.M (frI Ar L fi pm cd doc ent mu).A (execs initD.body (frI Ar L fi pm cd doc ent mu).env) Q E s := by
  have hx' : x ∈ (frI Ar L fi pm cd doc ent mu).mu := .tail _ hx
  have hdx' : dx ∈ (frI Ar L fi pm cd doc ent mu).mu := .tail _ hdx
  refine go_set (C := frI Ar L fi pm cd doc ent mu) (ns := []) a (OC.cls _ F.inv.B) hxC (Ev.loc (x := "ws") rfl rfl) F.inv F (RFlat.cons rfl (RFlat.cons rfl RFlat.nil)) rfl rfl (by simp) raw_none (fun _ h => absurd rfl h) (by simp) (fun s1 v1 hv1 g1 _ F1 => ?_) hx' hdx'
  obtain ⟨tw, rfl⟩ := hv1.str_is
  refine go_ex (C := frI Ar L fi pm cd doc ent mu) a (Ex.assign2s (Ev.tupd (Evs.cons (Ev.clsS OC rfl) (Evs.cons (Ev.clsT OC rfl) Evs.nil)) (by unfold sizeLine; simp)) (Sto.loc rfl) (Sto.loc rfl)) F1 fun s2 x2 F2 => ?_
  refine wpAny_execs_cons (wpAny_Assign_Name (List_ (args_nil (wpAny_newObj_type ?_ (Nat.zero_le _)))) (by rfl))
  have hD : (s2.heap.push (lstO [] 0)).get? s2.heap.objs.size = some (lstO [] 0) := Heap.get?_push_size _ rfl
  have x3 : Ext true s2 { s2 with heap := s2.heap.push (lstO [] 0) } := Ext.push'
  have F3 := F2.stm a x3.stm (F2.inv.ext x3)
  have hnew : s2.heap.objs.size ∉ (frI Ar L fi pm cd doc ent mu).mu := F2.inv.new (get_size _)
  refine (Sto.loc (R := .ref s2.heap.objs.size) (C := frI Ar L fi pm cd doc ent mu) rfl) _ (.ref s2.heap.objs.size) _ _ F3.inv V.ref fun s4 x4 I4 => ?_
  have F4 := F3.stm a x4 I4
  have c4 : Ct (frI Ar L fi pm cd doc ent mu) [] s2.heap.objs.size s4 := ⟨⟨0, [], x4.km _ _ (fun q => hnew (F2.inv.wf.mo' q)) hD, .nil⟩, hnew, by
    cases e' : (frI Ar L fi pm cd doc ent mu).ent.get? s2.heap.objs.size with
    | none => rfl
    | some o => have := F2.inv.ent _ _ e'; rw [get_size] at this; cases this⟩
  refine wpAny_execs_cons (wpAny_Assign_three ((Ev.cint (W := W) (p := true) (C := frI Ar L fi pm cd doc ent mu) (i := 0)) s4 _ _ F4.inv fun v s5 x5 v5 => ?_) (by rfl) (by rfl))
  obtain ⟨tz, rfl⟩ := v5.int_is
  have F5 := F4.stm a x5.stm (F4.inv.ext x5)
  refine PyProof.Rows.assign_Name ((Sto.loc (R := .int 0) (C := frI Ar L fi pm cd doc ent mu) rfl) _ (.int 0 tz) _ _ F5.inv V.int fun s6 x6 I6 => ?_)
  refine PyProof.Rows.assign_Name ((Sto.loc (R := .int 0) (C := frI Ar L fi pm cd doc ent mu) rfl) _ (.int 0 tz) _ _ I6 V.int fun s7 x7 I7 => ?_)
  refine PyProof.Rows.assign_Name ((Sto.loc (R := .int 0) (C := frI Ar L fi pm cd doc ent mu) rfl) _ (.int 0 tz) _ _ I7 V.int fun s8 x8 I8 => ?_)
  have F8 := ((F5.stm a x6 I6).stm a x7 I7).stm a x8 I8
  have c8 := (((c4.ext x5).stm F.inv.wf x6).stm F.inv.wf x7).stm F.inv.wf x8
  have g8 : Glo true s s8 := (((((g1.trans x2.toGlo).trans x3.toGlo).trans x4.toGlo).trans x5.toGlo).trans x6.toGlo).trans (x7.toGlo.trans x8.toGlo)
  have F8' : Fo W (frI Ar L fi pm cd doc ent mu) (rW ⟨0, 0, 0, []⟩ s2.heap.objs.size x) x dx Cl (fun y => if y = "raw" then some (.str ws tw) else none) s8 :=
    F8.stm a (Stm.refl _ _ _) (F8.inv.weak (Sub.cons rfl (Sub.cons rfl (Sub.cons rfl (Sub.cons rfl (Sub.cons rfl (Sub.cons rfl (Sub.cons rfl Sub.nil))))))))
  refine wpAny_execs_cons (ws_for O OC a hx hdx F8' c8 (if_pos rfl) hws fun ca s9 g9 F9 c9 hcl => ?_)
  have en : normA ws = .tup [.tup ((wsRun ⟨0, 0, 0, []⟩ (chars ws)).cnt.map .int), .int (wsRun ⟨0, 0, 0, []⟩ (chars ws)).b] := rfl
  rw [en] at k
  generalize hst : wsRun ⟨0, 0, 0, []⟩ (chars ws) = st at F9 c9 hcl k
  have wi0 : Within (fun y => if y = "raw" then some (Value.str ws tw) else none) ["raw"] := Within.cons _ _ (fun _ h => absurd rfl h)
  refine go_set (C := frI Ar L fi pm cd doc ent mu) (ns := ["raw"]) a (OC.cls _ F9.inv.B) hxC (Ev.loc (x := "n") rfl rfl) F9.inv F9 (rW_flat _ _ _) rfl rfl (by simp) n_none wi0 (by unfold sizeLine; simp) (fun s10 v10 _ g10 k10 F10 => ?_) hx' hdx'
  have nx : ca ≠ x := fun q => c9.mu (q ▸ hx')
  have nd : ca ≠ dx := fun q => c9.mu (q ▸ hdx')
  have c10 : Ct (frI Ar L fi pm cd doc ent mu) st.cnt ca s10 := c9.keep fun o e => k10 ca o nx nd e
  refine go_set (C := frI Ar L fi pm cd doc ent mu) (ns := ["n", "raw"]) a (OC.cls _ F10.inv.B) hxC (Ev.loc (x := "nt") rfl rfl) F10.inv F10 (rW_flat _ _ _) rfl rfl (by simp) nt_none (Within.cons _ _ wi0) (by unfold sizeLine; simp) (fun s11 v11 _ g11 k11 F11 => ?_) hx' hdx'
  have c11 : Ct (frI Ar L fi pm cd doc ent mu) st.cnt ca s11 := c10.keep fun o e => k11 ca o nx nd e
  refine go_set (C := frI Ar L fi pm cd doc ent mu) (ns := ["nt", "n", "raw"]) a (OC.cls _ F11.inv.B) hxC (R := .tup [.tup (st.cnt.map .int), .int st.b]) (Ev.tupd (Evs.cons (Ev.tcall (x := "tuple") (Ev.loc (x := "count") rfl rfl) (by rw [List.length_map]; unfold sizeLine; omega) (by decide +kernel) rfl (O.free _ (by decide))) (Evs.cons (Ev.loc (x := "b") rfl rfl) Evs.nil)) (by unfold sizeLine; simp)) (c11.inv F11.inv rfl rfl) F11 (rW_flat _ _ _) rfl rfl (by simp) norm_none (Within.cons _ _ (Within.cons _ _ wi0)) (by unfold sizeLine; simp) (fun s12 v12 hv12 g12 k12 F12 => ?_) hx' hdx'
  have c12 : Ct (frI Ar L fi pm cd doc ent mu) st.cnt ca s12 := c11.keep fun o e => k12 ca o nx nd e
  have hlen : ∀ {p1 p2 p3 : Pos}, Ev W true (frI Ar L fi pm cd doc ent mu) (upd (rW st ca x) "count" (.list (st.cnt.map .int))) (.Call (.Name "len" p1) [.Name "count" p2] [] p3) (.int st.cnt.length) := fun {p1 p2 p3} => by
    have := Ev.bcall (W := W) (p := true) (C := frI Ar L fi pm cd doc ent mu) (ρ := upd (rW st ca x) "count" (.list (st.cnt.map .int))) (x := "len") (id := "len") (pos := p3) (pos' := p1) (Evs.cons (Ev.loc (x := "count") (pos := p2) rfl rfl) Evs.nil) (Bui.len_list _ (by rw [List.length_map]; omega)) (by decide +kernel) rfl (O.free _ (by decide))
    rw [List.length_map] at this; exact this
  refine go_set (C := frI Ar L fi pm cd doc ent mu) (ns := ["norm", "nt", "n", "raw"]) a (OC.cls _ F12.inv.B) hxC (Ev.cmp hlen Ev.cint (Cmp.le st.cnt.length 1)) (c12.inv F12.inv rfl rfl) F12 (rW_flat _ _ _) rfl rfl (by simp) simple_none (Within.cons _ _ (Within.cons _ _ (Within.cons _ _ wi0))) (by unfold sizeLine; simp) (fun s13 v13 _ g13 k13 F13 => wpAny_execs_nil ?_) hx' hdx'
  refine k s13 _ v12 ((((g8.trans g9).trans g10).trans (g11.trans g12)).trans g13) ⟨F13.inv.weak Sub.nil, F13.inst, F13.dict⟩ (by rw [if_neg (by decide), if_pos rfl]) ?_
  refine V.mono (fun b o e => ?_) _ _ hv12
  have hb := fz.notin e
  refine fz.of (k13 b o (fun q => hb (q ▸ .head _)) (fun q => hb (q ▸ .tail _ (.head _))) (fz.get e)) fun q => hb (.tail _ (.tail _ (.tail _ q)))
end
end SC
namespace SC
open PySem PySem.Spec PySem.Calls PyProof.Rows PySem.W
set_option maxRecDepth 100000
theorem Rm.under {A : Around} {n : Nat} {c : Code} (r : Rm A (n + 1)) (hw : c.weight ≤ 1) (hu : c.cUnits ≤ 4) : Rm (A.under c) n :=
  ⟨r.hd, by have := r.dp; show A.depth + c.weight + n < _; omega, by have := r.un; show A.units + c.cUnits + 8 * n + 80 < cLine; omega⟩
section
variable {W : Wd} {C : Fc} {ρ : Rho} {Cl N fi : Addr} {mN : Str → Option Value}
theorem EvsT1 {e : Expr} {R : AV} (h : EvT (W := W) (p := true) (C := C) (ρ := ρ) e R) (he : starEach [e] C.env = (false, eval e C.env) :: starEach [] C.env) (pos : Pos) (s : Shared) (Q : List Value → Shared → Prop) (E : Value → Shared → Prop) (t0 : 0 < s.toks) (I : Inv W C ρ s)
    (k : ∀ vs s', Ext true s s' → Vs (fz s'.heap C.mu) [R] vs → Q vs s') : wpAny W.M C.A (spliced (backTo pos (starEach [e] C.env))) Q E s := by
  refine args_cons (h s _ _ t0 I fun v s1 x1 v1 => args_nil ?_) he
  exact k _ _ x1 (Vs.cons v1 Vs.nil)
set_option maxHeartbeats 2000000 in
theorem EvT.wsCall (O : OkW W) (OC : OkC W Cl N fi mN) {e : Expr} {p1 pos : Pos} {ws : Str} (he : EvT (W := W) (p := true) (C := C) (ρ := ρ) e (.str ws)) (hws : ws.length ≤ 800) (rm : Rm C.A 6) (hk : C.env.kindOf "Whitespace" = some .globalImplicit)
    (hst : starEach [e] C.env = (false, eval e C.env) :: starEach [] C.env := by rfl) : EvT (W := W) (p := true) (C := C) (ρ := ρ) (.Call (.Name "Whitespace" p1) [e] [] pos) (.inst Cl (normA ws)) := by
  intro s Q E t0 I k
  refine Call_ (Name_function_global I.wf.kind hk (loadGlobal_global (by rw [I.wf.gl]; exact I.G.g) OC.g ?_) (by decide))
  have K0 := OC.cls _ I.B
  refine PyProof.Rows.callWith_cls (h₀ := s.heap) (N := N) (mN := mN) ⟨K0.obj, K0.ns⟩ (EvsT1 he hst pos s _ _ t0 I fun vs s1 x1 v1 => ⟨x1.kp, ?_⟩) hst rfl
  obtain ⟨v, rfl, hv⟩ := one v1
  obtain ⟨tw, rfl⟩ := hv.str_is
  have I1 := I.ext x1
  have K1 := OC.cls _ I1.B
  have hlim := I1.G.nolimit
  have hB1 := I1.B
  have mu1 := I1.mub
  obtain ⟨h, g, d, t, os⟩ := s1
  obtain ⟨nm, q, bs, sn, sub, col, dd, k0, k1, k2, k3, k5, hC⟩ := K1.obj
  obtain ⟨of, pm, cd, doc, hf1, hf2, hf3, hf4⟩ := K1.fn
  refine wpAny_call_obj_init PySem.F.objNew hC K1.ns K1.init hf1 hf2 (fun h' x dx hm => ?_)
  have rm' : Rm (C.A.under (.builtin "type.__call__" ⟨.ref Cl :: [.str ws tw], []⟩)) 5 := rm.under (Nat.le_refl 1) (by show (1 : Nat) ≤ 4; omega)
  have hk1 : Kp h h' := hm.keeps
  refine wpAny_call (codeAny_call_cells (binds := [(("self" : Str), Value.ref x), (("ws" : Str), Value.str ws tw)]) (by have := rm'.dp; omega) (hk1 _ _ hf1) hf3 (hlim.keeps hk1) (hf4.keeps hk1) rfl (by rfl) rfl (fun y hy => ?_) (fun s2 ic => ?_) rfl rfl rfl)
  · rcases List.mem_cons.mp hy with rfl | hy
    · exact .inl rfl
    · obtain rfl := List.mem_singleton.mp hy
      exact .inl rfl
  · obtain ⟨h2, tk2, rfl⟩ := ic.toInCall.same
    have kp2 : Kp h' h2 := ic.toInCall.keep
    have kp02 : Kp h h2 := fun b o e => kp2 b o (hk1 b o e)
    obtain ⟨ox, hx1, hx2, hx3, hx4⟩ := hm.inst
    have hdx := hm.dict ox hx1
    have hx4' : ∃ d', ox.dict = some d' ∧ d' ≠ x ∧ h'.Ns1 d' fun _ => none := by
      rcases hx4 with ⟨e, _⟩ | e
      · rw [hdx] at e; cases e
      · exact e
    obtain ⟨d', e5, e6, e7⟩ := hx4'
    rw [hdx] at e5; cases e5
    obtain ⟨od, es, ep, e8, e9⟩ := e7
    have ltx : x < h'.objs.size := Heap.lt_size hx1
    have ltd : dx < h'.objs.size := Heap.lt_size e8
    have muL : ∀ b ∈ C.mu, b < h'.objs.size ∧ b ≠ x ∧ b ≠ dx := fun b hb => by
      obtain ⟨o, e⟩ := Option.isSome_iff_exists.mp (mu1 b hb)
      exact ⟨Heap.lt_size (hk1 _ _ e), fun q => (by rw [q, hm.newX] at e; cases e), fun q => (by rw [q, hm.newD] at e; cases e)⟩
    have a : Ap (frI (C.A.under (.builtin "type.__call__" ⟨.ref Cl :: [.str ws tw], []⟩)) h'.objs.size fi pm cd doc h (x :: dx :: C.mu)) x dx := ⟨hm.newX, hm.newD, Nat.ne_of_lt ltx, Nat.ne_of_lt ltd, rfl, rfl, fun _ => rfl⟩
    have hLf : h.get? h'.objs.size = none := by
      cases e : h.get? h'.objs.size with
      | none => rfl
      | some o => exact absurd (Heap.lt_size (hk1 _ _ e)) (Nat.lt_irrefl _)
    have inv : Inv W (frI (C.A.under (.builtin "type.__call__" ⟨.ref Cl :: [.str ws tw], []⟩)) h'.objs.size fi pm cd doc h (x :: dx :: C.mu)) [("self", .ref x), ("ws", .str ws)] ⟨h2, g, d, tk2, os⟩ :=
      { wf := { bs := hB1, rm := (rm'.deeper _).le (by omega), gl := rfl, bi := rfl, kind := rfl, Lmu := .head _, Lent := hLf, cL := fun _ _ e => (by cases e), cdis := fun _ _ _ e => (by cases e), cmu := fun _ _ e => (by cases e), omu := fun _ _ e => (by cases e) }
        ent := kp02
        ns := ⟨_, ic.toInCall.ns, fun y A e q => by
          obtain ⟨v, e1, _, e2⟩ := bind_at (g := fz h2 (h'.objs.size :: x :: dx :: C.mu)) (k := (callEnvC (initF pm cd doc) h'.objs.size fi).kindOf) (ns := [("self" : Str), "ws"]) (As := [.ref x, .str ws]) (vs := [.ref x, .str ws tw]) (m := fun _ => none) (cm := fun _ => none) (by decide) rfl (Vs.cons V.ref (Vs.cons V.str Vs.nil)) (x := y) (A := A) e
          exact ⟨v, e1 q, VO.of_V e2⟩⟩
        cl := fun y A e q => by
          have hy : y = "self" ∨ y = "ws" := by
            have := lookup_mem e
            simp at this
            rcases this with h | h
            · exact .inl h.1
            · exact .inr h.1
          rcases hy with rfl | rfl <;> exact absurd rfl q
        ce := fun _ _ e => (by cases e)
        mub := fun b hb => by
          show (h2.get? b).isSome = true
          rcases List.mem_cons.mp hb with rfl | hb
          · obtain ⟨o, _, _, e, _⟩ := ic.toInCall.ns
            exact Option.isSome_iff_exists.mpr ⟨o, e⟩
          · rcases List.mem_cons.mp hb with rfl | hb
            · rw [kp2 _ _ hx1]; rfl
            · rcases List.mem_cons.mp hb with rfl | hb
              · rw [kp2 _ _ e8]; rfl
              · obtain ⟨o, e⟩ := Option.isSome_iff_exists.mp (mu1 b hb)
                rw [kp02 _ _ e]; rfl
        live := fun _ _ e => (by cases e) }
    have F0 : Fo W (frI (C.A.under (.builtin "type.__call__" ⟨.ref Cl :: [.str ws tw], []⟩)) h'.objs.size fi pm cd doc h (x :: dx :: C.mu)) [("self", .ref x), ("ws", .str ws)] x dx Cl (fun _ => none) ⟨h2, g, d, tk2, os⟩ :=
      ⟨inv, ⟨ox, kp2 _ _ hx1, hx2, hx3, .inr ⟨dx, hdx, e6, ⟨od, es, ep, kp2 _ _ e8, e9⟩⟩⟩, fun o e => by have e : h2.get? x = some o := e; rw [kp2 _ _ hx1] at e; cases e; exact hdx⟩
    have hxC : x ≠ Cl := fun q => by
      have z := hm.newX
      rw [q] at z
      have hC' : h.get? Cl = some _ := hC
      rw [z] at hC'; cases hC'
    refine init_body O OC a (.head _) (.tail _ (.head _)) hxC F0 hws fun s3 mA vn g3 F3 hn hv3 => ⟨rfl, ?_⟩
    obtain ⟨o3, f1, f2, f3, f4⟩ := F3.inst
    have hd3 := F3.dict o3 f1
    have f4' : ∃ d', o3.dict = some d' ∧ d' ≠ x ∧ s3.heap.Ns1 d' mA := by
      rcases f4 with ⟨e, _⟩ | e
      · rw [hd3] at e; cases e
      · exact e
    obtain ⟨d3, f5, f6, o4, es4, ep4, f7, f8, f9, f10, f11⟩ := f4'
    rw [hd3] at f5; cases f5
    have x13 : Ext true (⟨h, g, d, t, os⟩ : Shared) s3 := ⟨⟨g3.dr, g3.os, g3.ge⟩, F3.inv.ent⟩
    refine k _ _ (x1.trans x13) ?_
    show V (fz s3.heap C.mu) (.inst Cl (normA ws)) (.ref x)
    simp only [V]
    exact ⟨x, o3, dx, o4, es4, ep4, vn, rfl, fz.of f1 (fun q => (muL x q).2.1 rfl), f2, f3, hd3, f6, fz.of f7 (fun q => (muL dx q).2.2 rfl), f8, f9, f10, (f11 "norm").trans hn, V.mono (fz.sub fun b hb => .tail _ (.tail _ hb)) _ _ hv3⟩
theorem Ev.norm (OC : OkC W Cl N fi mN) {x : Str} {p1 p2 : Pos} {A : AV} (h : Ev W true C ρ (.Name x p1) (.inst Cl A)) (he : eval (.Attribute (.Name x p1) "norm" p2) C.env = (do
      let o ← eval (.Name x p1) C.env
      standAt p2.atName
      let r ← holding [o] (getAttr o "norm" true)
      letTemporaryGo (.Name x p1) o r
      pure r) := by with_unfolding_all rfl) (hA : ∃ xs, A = .tup xs) : Ev W true C ρ (.Attribute (.Name x p1) "norm" p2) A := by
  intro s Q E I k
  refine Attribute_Name_ (h s _ _ I fun v s1 x1 v1 => ?_) he
  have I1 := I.ext x1
  have K1 := OC.cls _ I1.B
  obtain ⟨nm, q, bs, sn, sub, col, dd, k0, k1, k2, k3, k5, hC⟩ := K1.obj
  simp only [V] at v1
  obtain ⟨a, o, dx, od, es, ep, vn, rfl, e2, e3, e4, e5, e6, e7, e8, e9, e10, e11, e12⟩ := v1
  obtain ⟨xs, rfl⟩ := hA
  obtain ⟨b, n, vs, rfl, _⟩ := e12.tup_is
  obtain ⟨hp, g, d, t, os⟩ := s1
  refine load_attr hC K1.ns (K1.none _ (by simp)) (K1.none _ (by simp)) norm_none ⟨o, fz.get e2, e3, e4, .inr ⟨dx, e5, e6, ⟨od, es, ep, fz.get e7, e8, e9, e10, fun _ => rfl⟩⟩⟩ e11 rfl ?_
  exact k _ _ ⟨⟨x1.dr, x1.os, x1.ge⟩, x1.kp⟩ e12
end
end SC
namespace SC
open PySem PySem.Spec PySem.Calls PyProof.Rows PySem.W
set_option maxRecDepth 100000
variable {W : Wd}
def pickG {α : Type} (xs : List α) (lo hi st : Option Int) : List α := (sliceRange (sliceBounds lo hi st xs.length).1 (sliceBounds lo hi st xs.length).2.1 (sliceBounds lo hi st xs.length).2.2).filterMap (xs[·]?)
theorem pick_map {α : Type} (f : α → AV) (xs : List α) (lo hi st : Option Int) : pick (xs.map f) lo hi st = (pickG xs lo hi st).map f := by
  unfold pick pickG
  rw [List.length_map, List.map_filterMap]
  congr 1
  funext i
  simp
def drawnL (s : List Int) : List Int := pickG (pickG s none (some 5) none ++ [67, 15, 13, 1, 12]) none (some 5) none
def dueL (s : List Int) : List Int := (drawnL s).map fun x => x.fmod 5
def typedS (s : List Int) : Str := mailS (drawnL s)
def lineV (due : List Int) (y : Int) : Str := Txt.join "" (due.map fun x => Txt.mul "." (x + y * (if 1 < x then 1 else x)) ++ "\r\n")
end SC
namespace SC
open PySem PySem.Spec PySem.Calls PyProof.Rows PySem.W
set_option maxRecDepth 100000
variable {W : Wd} {p : Bool} {C : Fc} {ρ : Rho}
def RunT (W : Wd) (p : Bool) (C : Fc) (mu : List Addr) (ρ : Rho) (st : List Stmt) (R : AV) : Prop := ∀ (s : Shared) (Q : Flow → Shared → Prop) (E : Value → Shared → Prop), 0 < s.toks → Inv W C ρ s →
  (∀ v s', Glo p s s' → Kp C.ent s'.heap → V (fz s'.heap mu) R v → Q (.ret v) s') → wpAny W.M C.A (execs st C.env) Q E s
theorem RunT.of {mu : List Addr} {st : List Stmt} {R : AV} (h : Run W p C mu ρ st R) : RunT W p C mu ρ st R := fun s Q E _ I k => h s Q E I k
theorem RunT.cons {mu : List Addr} {ρ1 : Rho} {st : Stmt} {rest : List Stmt} {R : AV} (h : Ex W p C ρ st .next ρ1) (hr : RunT W p C mu ρ1 rest R) : RunT W p C mu ρ (st :: rest) R := by
  intro s Q E t0 I k
  refine wpAny_execs_cons (wpAny_with_toks (n := 1) t0 (h s _ _ I fun f s1 x1 I1 e t1 => ?_))
  obtain rfl : f = .next := e
  exact hr s1 _ _ t1 I1 fun v s2 x2 kp hv => k v s2 (x1.toGlo.trans x2) kp hv
theorem RunT.pre {mu : List Addr} {ρ1 : Rho} {st : List Stmt} {R : AV} (h : RunT W p C mu ρ1 st R) (hw : ∀ x A, ρ1.lookup x = some A → ρ.lookup x = some A) : RunT W p C mu ρ st R :=
  fun s Q E t0 I k => h s Q E t0 (I.weak hw) k
theorem EvP.int {i k pos} : EvP (W := W) (p := p) (C := C) (ρ := ρ) (.Constant (.int i) k pos) (.int i) := fun _ _ _ _ k => wpAny_Constant_int (k _ _ (Nat.succ_pos _) Ext.tok V.int)
def EvsP (W : Wd) (p : Bool) (C : Fc) (ρ : Rho) (es : List Expr) (Rs : List AV) : Prop := ∀ (pos : Pos) (s : Shared) (Q : List Value → Shared → Prop) (E : Value → Shared → Prop), Inv W C ρ s → (∀ vs s', 0 < s'.toks → Ext p s s' → Vs (fz s'.heap C.mu) Rs vs → Q vs s') → wpAny W.M C.A (spliced (backTo pos (starEach es C.env))) Q E s
theorem EvsP.cons {e : Expr} {es : List Expr} {R : AV} {Rs : List AV} (h : EvP (W := W) (p := p) (C := C) (ρ := ρ) e R) (hs : Evs W p C ρ es Rs) (he : starEach (e :: es) C.env = (false, eval e C.env) :: starEach es C.env := by rfl) : EvsP W p C ρ (e :: es) (R :: Rs) := by
  intro pos s Q E I k
  refine args_cons (h s _ _ I fun v s1 t1 x1 v1 => wpAny_with_toks (n := 1) t1 (hs pos s1 _ _ (I.ext x1) fun vs s2 x2 v2 t2 => ?_)) he
  exact k _ _ t2 (x1.trans x2) (Vs.cons (V.mono (fz.kp x2.kp) _ _ v1) v2)
theorem EvP.listd {es : List Expr} {Rs : List AV} {pos : Pos} (h : EvsP W p C ρ es Rs) (hs : Rs.length ≤ sizeLine) : EvP (W := W) (p := p) (C := C) (ρ := ρ) (.List es pos) (.list Rs) := by
  intro s Q E I k
  refine List_ (h pos s _ _ I fun vs s1 t1 x1 v1 => ?_)
  exact wpAny_newObj_type (k _ _ t1 (x1.trans Ext.push') (V.list (n := 0) (vs := vs) (fz_push (I.ext x1).mu rfl) (Vs.mono (fz.kp (kpush _ _)) _ _ v1))) (by show vs.toArray.size ≤ sizeLine; rw [List.size_toArray, v1.len]; exact hs)
theorem EvP.slice {a : Expr} {lo hi st : Option Expr} {pos q : Pos} {xs : List AV} {l h t : Option Int} (ha : EvP (W := W) (p := p) (C := C) (ρ := ρ) a (.list xs)) (h1 : Pt (W := W) (p := p) (C := C) (ρ := ρ) lo l) (h2 : Pt (W := W) (p := p) (C := C) (ρ := ρ) hi h) (h3 : Pt (W := W) (p := p) (C := C) (ρ := ρ) st t)
    (h0 : t ≠ Option.some 0) (hsz : xs.length ≤ sizeLine) : EvP (W := W) (p := p) (C := C) (ρ := ρ) (.Subscript a (.Slice lo hi st q) pos) (.list (pick xs l h t)) := by
  intro s Q E I k
  refine Subscript_ (ha s _ _ I fun av s1 t1 x1 v1 => wpAny_with_toks (n := 1) t1 (wpAny_Slice (h1 s1 _ _ (I.ext x1) fun vl s2 x2 p1 => h2 s2 _ _ ((I.ext x1).ext x2) fun vu s3 x3 p2 => h3 s3 _ _ (((I.ext x1).ext x2).ext x3) fun vs s4 x4 p3 => fun t4 => wpAny_with_toks (n := 1) t4 ?_)))
  have x : Ext p s4 { s4 with heap := s4.heap.push { cls := .type "slice", data := .fields #[vl, vu, vs] } } := Ext.push'
  have I4 := ((((I.ext x1).ext x2).ext x3).ext x4)
  have vl' := V.mono (fz.kp (((x2.trans x3).trans x4).trans x).kp) _ _ v1
  have hs : ∃ ops, subscripted (.Slice lo hi st q) false av (.ref s4.heap.objs.size) = operate ops (getItem av (.ref s4.heap.objs.size)) := by
    cases st with
    | none => exact ⟨_, rfl⟩
    | some e => exact ⟨_, rfl⟩
  obtain ⟨ops, hs⟩ := hs
  have key := slice_list (prog := W.prog) (w := W.w) (Ar := C.A) (mu := C.mu) (s := { s4 with heap := s4.heap.push { cls := .type "slice", data := .fields #[vl, vu, vs] } }) (value := a) (slice := .Slice lo hi st q) xs l h t h0 hsz (I4.ext x).mu vl' (Heap.IsSliceOf.new s4.heap vl vu vs) p1 p2 p3 hs
  refine key _ _ fun v s5 x5 v5 t5 => ?_
  exact k v s5 t5 (((((x1.trans x2).trans x3).trans x4).trans x).trans x5.of_true) v5
theorem RunT.assign {mu : List Addr} {x : Str} {e : Expr} {pos pos' : Pos} {A : AV} {rest : List Stmt} {R : AV} (h : EvP (W := W) (p := p) (C := C) (ρ := ρ) e A) (hst : Sto W C ρ x A) (hr : RunT W p C mu (upd ρ x A) rest R) (hs : swapsWith e (some (.Name x pos')) pos.line C.env = pure false := by rfl) : Run W p C mu ρ (.Assign [.Name x pos'] e pos :: rest) R := by
  intro s Q E I k
  refine wpAny_execs_cons (wpAny_Assign_Name (h s _ _ I fun v s1 t1 x1 v1 => ?_) hs)
  refine wpAny_with_toks (n := 1) t1 (hst s1 v _ _ (I.ext x1) v1 fun s2 x2 I2 t2 => ?_)
  exact hr s2 _ _ t2 I2 fun v s3 x3 kp hv => k v s3 ((x1.stm.trans x2.of_true).toGlo.trans x3) kp hv
end SC
namespace SC
open PySem PySem.Spec PySem.Calls PyProof.Rows PySem.W
set_option maxRecDepth 100000
variable {W : Wd}
section
variable {Ar : Around} {L f : Addr} {cd pm doc : Value} {ent : Heap} {mu : List Addr}
abbrev lC (Ar : Around) (L f : Addr) (cd pm doc : Value) (ent : Heap) (mu : List Addr) : Fc := frC dLaw Ar L f cd pm doc ent mu
def rho0 (s : List Int) : Rho := [("script", .list (s.map .int))]
theorem drawn_len5 (s : List Int) : (drawnL s).length ≤ 200 → True := fun _ => trivial
theorem law1 (s : List Int) (hs : s.length ≤ 1000) (h5 : (pickG s none (some 5) none).length ≤ 5) {R : AV}
    (hr : RunT W false (lC Ar L f cd pm doc ent mu) mu (upd (rho0 s) "drawn" (.list ((drawnL s).map .int))) (dLaw.body.drop 1) R) :
    Run W false (lC Ar L f cd pm doc ent mu) mu (rho0 s) dLaw.body R := by
  refine RunT.assign (A := .list ((drawnL s).map .int)) ?_ (Sto.loc rfl) hr
  have e : (drawnL s).map AV.int = pick ((pick (s.map AV.int) none (some 5) none) ++ [AV.int 67, .int 15, .int 13, .int 1, .int 12]) none (some 5) none := by
    rw [pick_map, show ([AV.int 67, .int 15, .int 13, .int 1, .int 12] : List AV) = [67, 15, 13, 1, 12].map AV.int from rfl, ← List.map_append, pick_map]; rfl
  rw [e]
  refine EvP.slice (EvP.binr (Ev.slice (Ev.loc rfl rfl) Pt.none (Pt.some Ev.cint) Pt.none (by simp) (by simp; unfold sizeLine; omega)) (EvP.listd (EvsP.cons EvP.int (Evs.cons Ev.cint (Evs.cons Ev.cint (Evs.cons Ev.cint (Evs.cons Ev.cint Evs.nil))))) (by unfold sizeLine; simp)) (Bin.list_add _ _ ?_)) Pt.none (Pt.some Ev.cint) Pt.none (by simp) ?_
  · rw [pick_map]; simp; unfold sizeLine; omega
  · rw [pick_map]; simp; unfold sizeLine; omega
end
end SC
namespace SC
open PySem PySem.Spec PySem.Calls PyProof.Rows PySem.W
set_option maxRecDepth 100000
variable {W : Wd}
section
variable {Ar : Around} {L f : Addr} {cd pm doc : Value} {ent : Heap} {mu : List Addr}
abbrev aI (ns : List Int) : AV := .list (ns.map .int)
abbrev aS (ns : List Str) : AV := .list (ns.map .str)
def rho2 (d : List Int) (t : Str) (due : List Int) : Rho := [("due", aI due), ("typed", .str t), ("drawn", aI d)]
theorem law2 (O : OkW W) (d : List Int) (hd : d.length ≤ 1000) (rm : Rm Ar 20) {R : AV} {ρ : Rho} (hρ : ρ.lookup ("drawn" : Str) = some (aI d))
    (hr : RunT W false (lC Ar L f cd pm doc ent mu) mu (rho2 d (mailS d) (d.map fun x => x.fmod 5)) (dLaw.body.drop 2) R) :
    RunT W false (lC Ar L f cd pm doc ent mu) mu ρ (dLaw.body.drop 1) R := by
  have rm4 : Rm (lC Ar L f cd pm doc ent mu).A 4 := (rm.deeper _).le (by omega)
  refine RunT.cons (Ex.assign2 (A := .str (mailS d)) (B := aI (d.map fun x => x.fmod 5)) (Ev.tupd (Evs.cons (Ev.gen (Ev.ucall (O.defs 16 (by decide)) rfl rfl (Evs.cons (Ev.loc (x := "drawn") hρ rfl) Evs.nil) (mail_con O d hd) rm4 rfl)) (Evs.cons ?_ Evs.nil)) (by unfold sizeLine; simp)) (Sto.loc rfl) (Sto.cel rfl rfl rfl)) (RunT.pre hr ?_)
  · have e : (d.map fun x => x.fmod 5).map AV.int = d.map fun x => AV.int (x.fmod 5) := by simp
    rw [show aI (d.map fun x => x.fmod 5) = .list (d.map fun x => AV.int (x.fmod 5)) by rw [← e]]
    refine Ev.comp [] (xs := d.map .int) (Src.list (Ev.loc (x := "drawn") hρ rfl)) (fun Lc D I => ?_) (fun Lc D I => Cap.nil) rfl (by simp; unfold sizeLine; omega)
    refine Cm.map fun x _ => ⟨Sto.loc rfl, Ev.bin (Ev.loc rfl rfl) Ev.cint (Bin.mod x 5 (by decide))⟩
  · refine Sub.cons rfl (Sub.cons rfl (Sub.cons ?_ Sub.nil))
    exact hρ
end
end SC
namespace SC
open PySem PySem.Spec PySem.Calls PyProof.Rows PySem.W
set_option maxRecDepth 100000
variable {W : Wd}
section
variable {Ar : Around} {L f : Addr} {cd pm doc : Value} {ent : Heap} {mu : List Addr}
def rho3 (d due : List Int) (S P : Str) : Rho := [("sent", .str S), ("plain", .str P), ("due", aI due), ("drawn", aI d)]
theorem law3 (O : OkW W) (K : OkP W) (d due : List Int) (t S P : Str) (ht : t.length ≤ 2000) (hS : quoteS t = S) (hP : fixS t = P) (hl : P.length ≤ 2000) (rm : Rm Ar 20) {R : AV}
    (hr : RunT W false (lC Ar L f cd pm doc ent mu) mu (rho3 d due S P) (dLaw.body.drop 3) R) :
    RunT W false (lC Ar L f cd pm doc ent mu) mu (rho2 d t due) (dLaw.body.drop 2) R := by
  have rm4 : Rm (lC Ar L f cd pm doc ent mu).A 4 := (rm.deeper _).le (by omega)
  refine RunT.cons (Ex.assign2s (A := .str S) (B := .str P) (Ev.tupd (Evs.cons ?_ (Evs.cons ?_ Evs.nil)) (by unfold sizeLine; simp)) (Sto.loc rfl) (Sto.loc rfl)) (RunT.pre hr ?_)
  · rw [← hS]; exact Ev.gen (Ev.ucall (O.defs 11 (by decide)) rfl rfl (Evs.cons (Ev.loc (x := "typed") rfl rfl) Evs.nil) (quote_con O K t ht (hP ▸ hl)) rm4 rfl)
  · rw [← hP]; exact Ev.gen (Ev.ucall (O.defs 12 (by decide)) rfl rfl (Evs.cons (Ev.loc (x := "typed") rfl rfl) Evs.nil) (fix_con O K t ht) rm4 rfl)
  · exact Sub.cons rfl (Sub.cons rfl (Sub.cons rfl (Sub.cons rfl Sub.nil)))
def dotS (x y : Int) : Str := Txt.mul "." (x + y * (if 1 < x then 1 else x)) ++ "\r\n"
theorem dotS_len (x y : Int) (hx : 0 ≤ x ∧ x ≤ 100) (hy : 0 ≤ y ∧ y ≤ 1) : (dotS x y).length ≤ 103 := by
  unfold dotS
  have : y = 0 ∨ y = 1 := by omega
  have e1 := len_mul_leN (x := ".") (n := x + y * (if 1 < x then 1 else x)) (L := 1) (N := 101) (by decide) (by rcases this with rfl | rfl <;> split <;> omega)
  rw [Str.length_append]
  have : ("\r\n" : Str).length = 2 := rfl
  omega
theorem law4 (O : OkW W) (d due : List Int) (S P : Str) (hd : ∀ x ∈ due, 0 ≤ x ∧ x ≤ 100) (hn : due.length ≤ 100) (hS : S = Txt.join "" (due.map fun x => dotS x 1)) (hP : P = Txt.join "" (due.map fun x => dotS x 0))
    (oS : PyData.strOk S = true) (oP : PyData.strOk P = true) {R : AV}
    (hr : RunT W false (lC Ar L f cd pm doc ent mu) mu (rho3 d due S P) (dLaw.body.drop 4) R) :
    RunT W false (lC Ar L f cd pm doc ent mu) mu (rho3 d due S P) (dLaw.body.drop 3) R := by
  have e2 : ([AV.str S, .str P] : List AV) = [S, P].map AV.str := rfl
  have e3 : ([S, P].map AV.str) = ([1, 0] : List Int).map fun y => AV.str (Txt.join "" (due.map fun x => dotS x y)) := by rw [hS, hP]; rfl
  have sh : SeqAt.shaped (AV.list ([S, P].map .str)).py = true := shaped_strs _ (by intro x hx; simp at hx; rcases hx with rfl | rfl <;> assumption)
  refine RunT.cons (Ex.ifs (c := false) (Tr.cmp (A := .list ([S, P].map .str)) (B := .list ([S, P].map .str)) (Ev.listd (Evs.cons (Ev.loc (x := "sent") rfl rfl) (Evs.cons (Ev.loc (x := "plain") rfl rfl) Evs.nil)) (by unfold sizeLine; simp)) ?_ (Cmp.dne sh sh (by rw [eqv_strs]; simp))) (fun h => by cases h) (fun _ => Exs.nil)) hr
  rw [e3]
  refine Ev.comp [("due", aI due)] (xs := ([1, 0] : List Int).map .int) (Src.list (Ev.listd (Evs.cons Ev.cint (Evs.cons Ev.cint Evs.nil)) (by unfold sizeLine; simp))) (fun Lc D I => Cm.map fun y hy => ⟨Sto.cel rfl rfl rfl, ?_⟩) (fun Lc D I => Cap.cons rfl rfl rfl rfl Cap.nil) rfl (by unfold sizeLine; simp)
  have hy' : y = 1 ∨ y = 0 := by simpa using hy
  refine Ev.meth F.plainAttrs_str F.slot_str_join F.type_str_join Pln.str Ev.cstr (Evs.cons (R := .list ((due.map fun x => dotS x y).map .str)) ?_ Evs.nil) (Bui.join "" _ (joinOk_of ?_))
  · rw [List.map_map]
    refine Ev.comp [("y", .int y)] (xs := due.map .int) (Src.list (Ev.cel (x := "due") rfl rfl)) (fun Lc' D' I' => Cm.map fun x hx => ⟨Sto.loc rfl, ?_⟩) (fun Lc' D' I' => Cap.cons rfl rfl rfl rfl Cap.nil) rfl (by simp; unfold sizeLine; omega)
    have hx' := hd x hx
    refine Ev.bin (Ev.bin Ev.cstr (Ev.bin (Ev.loc (x := "x") rfl rfl) (Ev.bin (Ev.cel (x := "y") rfl rfl) (Ev.bcall (x := "min") (id := "min") (Evs.cons (Ev.loc (x := "x") rfl rfl) (Evs.cons Ev.cint Evs.nil)) (Bui.min2 x 1) (by decide +kernel) rfl (O.free _ (by decide))) (Bin.mul _ _ ?_)) (Bin.add _ _)) (Bin.str_mul "." _ (mulOk1 ?_ ?_ (by decide)))) Ev.cstr (Bin.str_add _ _ ?_)
    · exact IntMulOk.of_left (by rcases hy' with rfl | rfl <;> decide)
    · rcases hy' with rfl | rfl <;> split <;> omega
    · rcases hy' with rfl | rfl <;> split <;> omega
    · have := dotS_len x y hx' (by omega)
      unfold dotS at this
      rw [Str.length_append] at this
      unfold sizeLine; omega
  · have h1 : ((due.map fun x => dotS x y).map (·.length)).sum ≤ 103 * due.length := by
      clear hS hP sh hr e3 hn
      induction due with
      | nil => simp
      | cons x r ih =>
        have := ih (fun z hz => hd z (.tail _ hz))
        have := dotS_len x y (hd x (.head _)) (by omega)
        simp only [List.map_cons, List.sum_cons, List.length_cons]
        omega
    have h4 : ("" : Str).length = 0 := by decide
    rw [h4]; omega
end
end SC
namespace SC
open PySem PySem.Spec PySem.Calls PyProof.Rows PySem.W
set_option maxRecDepth 100000
variable {W : Wd}
section
variable {Ar : Around} {L f : Addr} {cd pm doc : Value} {ent : Heap} {mu : List Addr}
def rho5 (d due : List Int) (P : Str) (tall : List Str) : Rho := [("tall", aS tall), ("plain", .str P), ("due", aI due), ("drawn", aI d)]
theorem law5 (d due : List Int) (S P : Str) (sp up : List Str) (hS : S.length ≤ 2000) (hsp : pickG (Txt.split S "\r\n") none (some (-1)) none = sp) (hl : sp.length < 64) (hL : (Txt.split S "\r\n").length ≤ 2000)
    (hu : ∀ ms : List Str, ms.Perm sp → sortedS ms = true → ms = up) (hul : up.length ≤ 2000) (O : OkW W) {R : AV}
    (hr : RunT W false (lC Ar L f cd pm doc ent mu) mu (rho5 d due P (pickG up none none (some (-1)))) (dLaw.body.drop 5) R) :
    RunT W false (lC Ar L f cd pm doc ent mu) mu (rho3 d due S P) (dLaw.body.drop 4) R := by
  refine RunT.cons (Ex.assign (R := aS (pickG up none none (some (-1)))) ?_ (Sto.cel rfl rfl rfl)) (RunT.pre hr (Sub.cons rfl (Sub.cons rfl (Sub.cons rfl (Sub.cons rfl Sub.nil)))))
  rw [show aS (pickG up none none (some (-1))) = .list (pick (up.map AV.str) none none (some (-1))) by rw [pick_map]]
  refine Ev.slice (Ev.bcall (x := "sorted") (id := "sorted") (Evs.cons (R := aS sp) ?_ Evs.nil) (Bui.sorted_strs sp up hl hu) (by decide +kernel) rfl (O.free _ (by decide))) Pt.none Pt.none (Pt.some (Ev.neg Ev.cint)) (by simp) (by simp; unfold sizeLine; omega)
  rw [show aS sp = .list (pick ((Txt.split S "\r\n").map AV.str) none (some (-1)) none) by rw [pick_map, hsp]]
  refine Ev.slice (Ev.meth F.plainAttrs_str F.slot_str_split F.type_str_split Pln.str (Ev.loc (x := "sent") rfl rfl) (Evs.cons Ev.cstr Evs.nil) (Bui.split S "\r\n" (by decide) (by unfold sizeLine; omega))) Pt.none (Pt.some (Ev.neg Ev.cint)) Pt.none (by simp) (by simp; unfold sizeLine; omega)
end
end SC
namespace SC
open PySem PySem.Spec PySem.Calls PyProof.Rows PySem.W
set_option maxRecDepth 100000
variable {W : Wd}
theorem EvT.bin {p : Bool} {C : Fc} {ρ : Rho} {l r : Expr} {op : Operator} {pos : Pos} {A B R : AV} (hl : EvT (W := W) (p := p) (C := C) (ρ := ρ) l A) (hr : Ev W p C ρ r B) (hb : Bin W.prog W.w op A B R) : EvT (W := W) (p := p) (C := C) (ρ := ρ) (.BinOp l op r pos) R := by
  intro s Q E t0 I k
  refine wpAny_BinOp (hl s _ _ t0 I fun a s1 x1 v1 => hr s1 _ _ (I.ext x1) fun b s2 x2 v2 => ?_)
  exact hb C.A C.mu s2 a b (I.wf.rm.le (by omega)) (((I.ext x1).ext x2).mu) (V.mono (fz.kp x2.kp) _ _ v1) v2 _ _ fun v s3 x3 v3 => k v s3 ((x1.trans x2).trans x3.of_true) v3
theorem RunT.assignT {p : Bool} {C : Fc} {ρ : Rho} {mu : List Addr} {x : Str} {e : Expr} {pos pos' : Pos} {A : AV} {rest : List Stmt} {R : AV} (h : EvT (W := W) (p := p) (C := C) (ρ := ρ) e A) (hst : Sto W C ρ x A) (hr : Run W p C mu (upd ρ x A) rest R) (hs : swapsWith e (some (.Name x pos')) pos.line C.env = pure false := by rfl) : RunT W p C mu ρ (.Assign [.Name x pos'] e pos :: rest) R := by
  intro s Q E t0 I k
  refine wpAny_execs_cons (wpAny_Assign_Name (h s _ _ t0 I fun v s1 x1 v1 => ?_) hs)
  refine hst s1 v _ _ (I.ext x1) v1 fun s2 x2 I2 => ?_
  exact hr s2 _ _ I2 fun v s3 x3 kp hv => k v s3 ((x1.stm.trans x2.of_true).toGlo.trans x3) kp hv
theorem EvT.gen {p : Bool} {C : Fc} {ρ : Rho} {e : Expr} {R : AV} (h : EvT (W := W) (p := true) (C := C) (ρ := ρ) e R) : EvT (W := W) (p := p) (C := C) (ρ := ρ) e R := fun s Q E t0 I k => h s Q E t0 I fun v s' x => k v s' x.of_true
section
variable {Ar : Around} {L f : Addr} {cd pm doc : Value} {ent : Heap} {mu : List Addr} {Cl N fi : Addr} {mN : Str → Option Value}
def wsT (P : Str) : Str := Txt.replace (Txt.replace P "\r\n" "\t") "." " " ++ "x \t"
def rho6 (d due : List Int) (tall : List Str) (Cl : Addr) (A : AV) : Rho := [("nanny", .inst Cl A), ("tall", aS tall), ("due", aI due), ("drawn", aI d)]
theorem law6 (O : OkW W) (OC : OkC W Cl N fi mN) (d due : List Int) (P : Str) (tall : List Str) (A : AV) (hP : P.length ≤ 100) (hw : (Txt.replace (Txt.replace P "\r\n" "\t") "." " ").length ≤ 700) (hA : normA (wsT P) = A) (rm : Rm Ar 20) {R : AV}
    (hr : Run W false (lC Ar L f cd pm doc ent mu) mu (rho6 d due tall Cl A) (dLaw.body.drop 6) R) :
    RunT W false (lC Ar L f cd pm doc ent mu) mu (rho5 d due P tall) (dLaw.body.drop 5) R := by
  have rm6 : Rm (lC Ar L f cd pm doc ent mu).A 6 := (rm.deeper _).le (by omega)
  have hx : ("x \t" : Str).length = 3 := by decide
  have ht : ("\t" : Str).length = 1 := by decide
  have hs : (" " : Str).length = 1 := by decide
  have h1 := replace_len P "\r\n" "\t"
  refine RunT.assignT (A := .inst Cl A) (EvT.gen ?_) (Sto.loc rfl) (Run.pre hr (Sub.cons rfl (Sub.cons rfl (Sub.cons rfl (Sub.cons rfl Sub.nil)))))
  rw [← hA]
  refine EvT.wsCall O OC (ws := wsT P) (EvT.bin (EvT.replace (EvT.replace (EvT.of (Ev.loc (x := "plain") rfl rfl)) (by decide) ?_) (by decide) ?_) Ev.cstr (Bin.str_add _ _ ?_)) ?_ rm6 rfl
  · rw [ht]; omega
  · rw [hs]; rw [ht] at h1; omega
  · rw [hx]; unfold sizeLine; omega
  · unfold wsT; rw [Str.length_append, hx]; omega
end
end SC
namespace SC
open PySem PySem.Spec PySem.Calls PyProof.Rows PySem.W
set_option maxRecDepth 100000
variable {W : Wd}
section
variable {Ar : Around} {L f : Addr} {cd pm doc : Value} {ent : Heap} {mu : List Addr} {Cl N fi : Addr} {mN : Str → Option Value}
def nA (cs : List Int) : AV := .tup [.tup (cs.map .int), .int 0]
theorem shaped_nA (cs : List Int) : SeqAt.shaped (nA cs).py = true := by
  obtain ⟨h1, h2⟩ := pys_ints cs
  simp [nA, SeqAt.shaped, AV.py, AV.pys, PyData.canLay0, PyData.canLayAll0, PyData.depth, PyData.depthAll, h1, h2]
theorem eqv_nA (cs : List Int) : PyData.eqv (nA cs).py (nA cs).py = true := by
  have := eqv_intsA cs cs
  simp [nA, AV.py, AV.pys, PyData.eqv, PyData.eqvAll, this]
theorem law7 (O : OkW W) (OC : OkC W Cl N fi mN) (d due : List Int) (tall : List Str) (M : Nat) (cs : List Int) (hM : (M : Int) ∈ due) (hle : ∀ a ∈ due, a ≤ (M : Int)) (hM1 : M ≤ 100) (hdl : due.length ≤ 100) (hc : cs = (List.range (M + 1)).map fun x : Nat => (due.count (x : Int) : Int)) {R : AV}
    (hr : Run W false (lC Ar L f cd pm doc ent mu) mu (rho6 d due tall Cl (nA cs)) (dLaw.body.drop 7) R) :
    Run W false (lC Ar L f cd pm doc ent mu) mu (rho6 d due tall Cl (nA cs)) (dLaw.body.drop 6) R := by
  have e : cs.map AV.int = (List.range (M + 1)).map fun x : Nat => AV.int (due.count (x : Int) : Int) := by rw [hc, List.map_map]; rfl
  refine Run.cons (Ex.ifs (c := false) (Tr.cmp (A := nA cs) (B := nA cs) (Ev.gen (Ev.norm OC (Ev.loc (x := "nanny") rfl rfl) (hA := ⟨_, rfl⟩))) (Ev.tupd (Evs.cons (R := .tup (cs.map .int)) ?_ (Evs.cons Ev.cint Evs.nil)) (by unfold sizeLine; simp)) (Cmp.dne (shaped_nA cs) (shaped_nA cs) (by rw [eqv_nA]; rfl))) (fun h => by cases h) (fun _ => Exs.nil)) hr
  refine Ev.tcall (x := "tuple") ?_ (by rw [List.length_map, hc]; simp; unfold sizeLine; omega) (by decide +kernel) rfl (O.free _ (by decide))
  rw [e]
  refine Ev.comp [("due", aI due)] (Src.range (n := M + 1) (x := "range") (Ev.bin (Ev.bcall (x := "max") (id := "max") (Evs.cons (Ev.cel (x := "due") rfl rfl) Evs.nil) (Bui.max due M hM hle) (by decide +kernel) rfl (O.free _ (by decide))) Ev.cint (Bin.add _ _)) (by omega) (by decide +kernel) rfl (O.free _ (by decide))) (fun Lc D I => Cm.map fun x hx => ⟨Sto.loc rfl, ?_⟩) (fun Lc D I => Cap.cons rfl rfl rfl rfl Cap.nil) rfl (by simp; unfold sizeLine; omega)
  exact Ev.meth F.plainAttrs_list F.slot_list_count F.type_list_count Pln.list (Ev.cel (x := "due") rfl rfl) (Evs.cons (Ev.loc (x := "x") rfl rfl) Evs.nil) (Bui.count due x)
end
end SC
namespace SC
open PySem PySem.Spec PySem.Calls PyProof.Rows PySem.W
set_option maxRecDepth 100000
variable {W : Wd}
section
variable {Ar : Around} {L f : Addr} {cd pm doc : Value} {ent : Heap} {mu : List Addr} {Cl N fi : Addr} {mN : Str → Option Value}
def rho8 (d due : List Int) (tall : List Str) (wide : List Int) : Rho := [("wide", aI wide), ("tall", aS tall), ("due", aI due), ("drawn", aI d)]
theorem law8 (O : OkW W) (OC : OkC W Cl N fi mN) (d due : List Int) (tall : List Str) (cs : List Int) (hc : cs.length ≤ 200) (rm : Rm Ar 20) {R : AV}
    (hr : Run W false (lC Ar L f cd pm doc ent mu) mu (rho8 d due tall (colL cs)) (dLaw.body.drop 8) R) :
    Run W false (lC Ar L f cd pm doc ent mu) mu (rho6 d due tall Cl (nA cs)) (dLaw.body.drop 7) R := by
  have rm4 : Rm (lC Ar L f cd pm doc ent mu).A 4 := (rm.deeper _).le (by omega)
  refine Run.cons (Ex.assign (R := aI (colL cs)) (Ev.gen (Ev.ucall (O.defs 17 (by decide)) rfl rfl (Evs.cons (Ev.sub1 (Ev.norm OC (A := nA cs) (Ev.loc (x := "nanny") rfl rfl) (hA := ⟨_, rfl⟩)) Ev.cint (Sub1.tup _ 0 (.tup (cs.map .int)) (by decide) (by decide) rfl)) Evs.nil) (col_con O cs (by omega)) rm4 rfl)) (Sto.cel rfl rfl rfl)) (Run.pre hr (Sub.cons rfl (Sub.cons rfl (Sub.cons rfl (Sub.cons rfl Sub.nil)))))
def rho9 (d due : List Int) (tall : List Str) (wide : List Int) (asked : List Str) : Rho := [("asked", aS asked), ("wide", aI wide), ("tall", aS tall), ("due", aI due), ("drawn", aI d)]
theorem law9 (O : OkW W) (d due : List Int) (tall : List Str) (wide : List Int) (hd : 4 ≤ d.length) (ht : 4 ≤ tall.length) (hc : ∀ k < 4, k + 1 < (tall.getD k "").length → k + 1 < wide.length)
    (hrl : ∀ k < 4, (tall.getD k "").length ≤ 1000) (hcl : ∀ k, 0 ≤ wide.getD k 0 ∧ wide.getD k 0 ≤ 1000) (rm : Rm Ar 20) {R : AV}
    (hr : Run W false (lC Ar L f cd pm doc ent mu) mu (rho9 d due tall wide (fieldsL d wide tall)) (dLaw.body.drop 9) R) :
    Run W false (lC Ar L f cd pm doc ent mu) mu (rho8 d due tall wide) (dLaw.body.drop 8) R := by
  have rm4 : Rm (lC Ar L f cd pm doc ent mu).A 4 := (rm.deeper _).le (by omega)
  refine Run.cons (Ex.assign (R := aS (fieldsL d wide tall)) (Ev.gen (Ev.ucall (O.defs 18 (by decide)) rfl rfl (Evs.cons (Ev.loc (x := "drawn") rfl rfl) (Evs.cons (Ev.cel (x := "wide") rfl rfl) (Evs.cons (Ev.cel (x := "tall") rfl rfl) Evs.nil))) (fields_con O d wide tall hd ht hc hrl hcl) rm4 rfl)) (Sto.cel rfl rfl rfl)) (Run.pre hr (Sub.cons rfl (Sub.cons rfl (Sub.cons rfl (Sub.cons rfl (Sub.cons rfl Sub.nil))))))
end
end SC
namespace SC
open PySem PySem.Spec PySem.Calls PyProof.Rows PySem.W
set_option maxRecDepth 100000
variable {W : Wd}
section
variable {Ar : Around} {L f : Addr} {cd pm doc : Value} {ent : Heap} {mu : List Addr}
def keptL (asked tall : List Str) (wide : List Int) : List Str := (List.range asked.length).map fun k => if wide.getD (k + 1) 0 = ((tall.getD k "").length : Int) then asked.getD k "" else badS
def rho10 (d due : List Int) (tall : List Str) (wide : List Int) (asked kept : List Str) : Rho := [("kept", aS kept), ("asked", aS asked), ("wide", aI wide), ("tall", aS tall), ("due", aI due), ("drawn", aI d)]
theorem law10 (O : OkW W) (d due : List Int) (tall : List Str) (wide : List Int) (asked : List Str) (ha : asked.length ≤ 100) (hw : asked.length < wide.length) (ht : asked.length ≤ tall.length) (htl : ∀ k, (tall.getD k "").length ≤ 1000) {R : AV}
    (hr : Run W false (lC Ar L f cd pm doc ent mu) mu (rho10 d due tall wide asked (keptL asked tall wide)) (dLaw.body.drop 10) R) :
    Run W false (lC Ar L f cd pm doc ent mu) mu (rho9 d due tall wide asked) (dLaw.body.drop 9) R := by
  have e : (keptL asked tall wide).map AV.str = (List.range asked.length).map fun k => AV.str (if wide.getD (k + 1) 0 = ((tall.getD k "").length : Int) then asked.getD k "" else badS) := by unfold keptL; rw [List.map_map]; rfl
  refine Run.cons (Ex.assignComp (Rs := (keptL asked tall wide).map AV.str) (xs := (List.range asked.length).map fun k : Nat => AV.int (k : Int)) [("asked", aS asked), ("wide", aI wide), ("tall", aS tall)] ?_ ?_ ?_ rfl ?_ (fun L' => Sto.loc rfl)) (Run.pre hr (Sub.cons rfl (Sub.cons rfl (Sub.cons rfl (Sub.cons rfl (Sub.cons rfl (Sub.cons rfl Sub.nil)))))))
  · refine Src.range (n := asked.length) (x := "range") (Ev.bcall (x := "len") (id := "len") (Evs.cons (Ev.cel (x := "asked") rfl rfl) Evs.nil) ?_ (by decide +kernel) rfl (O.free _ (by decide))) (by omega) (by decide +kernel) rfl (O.free _ (by decide))
    have := Bui.len_list (prog := W.prog) (w := W.w) (asked.map AV.str) (by simp; omega)
    rw [List.length_map] at this; exact this
  · intro Lc D I
    rw [e]
    refine Cm.map fun k hk => ⟨Sto.loc rfl, ?_⟩
    have hk := List.mem_range.mp hk
    refine Ev.ifexp (c := decide (wide.getD (k + 1) 0 = ((tall.getD k "").length : Int))) (Tr.cmp (A := .int (wide.getD (k + 1) 0)) (B := .int ((tall.getD k "").length : Int)) (Ev.sub1 (Ev.cel (x := "wide") rfl rfl) (Ev.bin (Ev.loc (x := "x") rfl rfl) Ev.cint (Bin.add _ _)) (Sub1.list _ _ _ (by omega) (by omega) (map_at2 (k := k + 1) (by omega) (by omega)))) (Ev.bcall (x := "len") (id := "len") (Evs.cons (Ev.sub1 (Ev.cel (x := "tall") rfl rfl) (Ev.loc (x := "x") rfl rfl) (Sub1.list _ _ (.str (tall.getD k "")) (by omega) (by omega) (map_at2 (k := k) rfl (by omega)))) Evs.nil) (Bui.len_str _ (by have := htl k; omega)) (by decide +kernel) rfl (O.free _ (by decide))) (Cmp.eq _ _)) (fun h => ?_) (fun h => ?_)
    · rw [if_pos (by simpa using h)]
      exact Ev.sub1 (Ev.cel (x := "asked") rfl rfl) (Ev.loc (x := "x") rfl rfl) (Sub1.list _ _ _ (by omega) (by omega) (map_at2 (k := k) rfl (by omega)))
    · rw [if_neg (by simpa using h)]
      exact Ev.cstr
  · intro Lc D I
    exact Cap.cons rfl rfl rfl rfl (Cap.cons rfl rfl rfl rfl (Cap.cons rfl rfl rfl rfl Cap.nil))
  · simp; unfold sizeLine; omega
end
end SC
namespace SC
open PySem PySem.Spec PySem.Calls PyProof.Rows PySem.W
set_option maxRecDepth 100000
variable {W : Wd}
section
variable {Ar : Around} {L f : Addr} {cd pm doc : Value} {ent : Heap} {mu : List Addr}
theorem law11 (O : OkW W) (d due : List Int) (tall : List Str) (wide : List Int) (asked kept : List Str) (ha : asked.length ≤ 100) (hx : ∀ v ∈ asked, v.length ≤ 2000) (hk : asked.map preV = kept) (hok : ∀ v ∈ kept, PyData.strOk v = true) (rm : Rm Ar 20) {R : AV}
    (hr : Run W false (lC Ar L f cd pm doc ent mu) mu (rho10 d due tall wide asked kept) (dLaw.body.drop 11) R) :
    Run W false (lC Ar L f cd pm doc ent mu) mu (rho10 d due tall wide asked kept) (dLaw.body.drop 10) R := by
  have rm8 : Rm (lC Ar L f cd pm doc ent mu).A 8 := (rm.deeper _).le (by omega)
  have pc := pre_con O asked (by omega) hx
  rw [hk] at pc
  exact Run.cons (Ex.ifs (c := false) (Tr.cmp (A := aS kept) (B := aS kept) (Ev.ucall (O.defs 6 (by decide)) rfl rfl (Evs.cons (Ev.cel (x := "asked") rfl rfl) Evs.nil) pc rm8 rfl) (Ev.loc (x := "kept") rfl rfl) (Cmp.dne (shaped_strs kept hok) (shaped_strs kept hok) (by rw [eqv_strs]; simp))) (fun h => by cases h) (fun _ => Exs.nil)) hr
end
end SC
namespace SC
open PySem PySem.Spec PySem.Calls PyProof.Rows PySem.W
set_option maxRecDepth 100000
variable {W : Wd}
section
variable {Ar : Around} {L f : Addr} {cd pm doc : Value} {ent : Heap} {mu : List Addr}
def rho12 (d due : List Int) (tall : List Str) (wide : List Int) (asked kept : List Str) (nt : Int) : Rho := [("nets", .int nt), ("kept", aS kept), ("asked", aS asked), ("wide", aI wide), ("tall", aS tall), ("due", aI due)]
theorem law12 (O : OkW W) (d due : List Int) (tall : List Str) (wide : List Int) (asked kept : List Str) (n : Nat) (hn : due.length = n) (h8 : n ≤ 8) (nt : Int) (hnt : nets n due = nt) (rm : Rm Ar 20) {R : AV}
    (hr : Run W false (lC Ar L f cd pm doc ent mu) mu (rho12 d due tall wide asked kept nt) (dLaw.body.drop 12) R) :
    Run W false (lC Ar L f cd pm doc ent mu) mu (rho10 d due tall wide asked kept) (dLaw.body.drop 11) R := by
  have rm4 : Rm (lC Ar L f cd pm doc ent mu).A (n + 4) := (rm.deeper _).le (by omega)
  refine Run.cons (Ex.assign (R := .int nt) ?_ (Sto.loc rfl)) (Run.pre hr (Sub.cons rfl (Sub.cons rfl (Sub.cons rfl (Sub.cons rfl (Sub.cons rfl (Sub.cons rfl Sub.nil)))))))
  rw [← hnt]
  exact Ev.gen (Ev.ucall (O.defs 19 (by decide)) rfl rfl (Evs.cons (Ev.cel (x := "due") rfl rfl) Evs.nil) (nets_con O n due hn h8) rm4 rfl)
end
end SC
namespace SC
open PySem PySem.Spec PySem.Calls PyProof.Rows PySem.W
set_option maxRecDepth 100000
variable {W : Wd}
section
variable {Ar : Around} {L f : Addr} {cd pm doc : Value} {ent : Heap} {mu : List Addr}
def overV (wide : List Int) (tall : List Str) (n : Nat) : Int := (pickG wide (some 1) (some (n + 1)) none).sum - ((pickG tall none (some n) none).map fun x => (x.length : Int)).sum
def rho13 (due : List Int) (tall : List Str) (asked kept : List Str) (nt ov : Int) : Rho := [("over", .int ov), ("nets", .int nt), ("kept", aS kept), ("asked", aS asked), ("tall", aS tall), ("due", aI due)]
set_option maxHeartbeats 4000000 in
theorem law13 (O : OkW W) (d due : List Int) (tall : List Str) (wide : List Int) (asked kept : List Str) (nt ov : Int) (hov : overV wide tall asked.length = ov) (ha : asked.length ≤ 100) (hw : wide.length ≤ 1000) (ht : tall.length ≤ 1000) (htl : ∀ x ∈ pickG tall none (some (asked.length : Int)) none, x.length ≤ 1000)
    (htp : (pickG tall none (some (asked.length : Int)) none).length ≤ 1000) {R : AV}
    (hr : Run W false (lC Ar L f cd pm doc ent mu) mu (rho13 due tall asked kept nt ov) (dLaw.body.drop 13) R) :
    Run W false (lC Ar L f cd pm doc ent mu) mu (rho12 d due tall wide asked kept nt) (dLaw.body.drop 12) R := by
  have hlen : ∀ {C : Fc} {ρ : Rho} {p1 p2 p3 : Pos}, C.env.kindOf "len" = some .globalImplicit → C.env.kindOf "asked" = some .cell → ρ.lookup ("asked" : Str) = some (aS asked) → Ev W false C ρ (.Call (.Name "len" p1) [.Name "asked" p2] [] p3) (.int (asked.length : Int)) := by
    intro C ρ p1 p2 p3 h1 h2 h3
    have := Bui.len_list (prog := W.prog) (w := W.w) (asked.map AV.str) (by simp; omega)
    rw [List.length_map] at this
    exact Ev.bcall (x := "len") (id := "len") (Evs.cons (Ev.cel (x := "asked") h3 h2) Evs.nil) this (by decide +kernel) h1 (O.free _ (by decide))
  refine Run.cons (Ex.assign (R := .int ov) ?_ (Sto.loc rfl)) (Run.pre hr (Sub.cons rfl (Sub.cons rfl (Sub.cons rfl (Sub.cons rfl (Sub.cons rfl (Sub.cons rfl Sub.nil)))))))
  rw [← hov]
  refine Ev.bin (Ev.bcall (x := "sum") (id := "sum") (Evs.cons (R := aI (pickG wide (some 1) (some (asked.length + 1)) none)) ?_ Evs.nil) (Bui.sum _) (by decide +kernel) rfl (O.free _ (by decide))) (Ev.bcall (x := "sum") (id := "sum") (Evs.cons (R := aI ((pickG tall none (some asked.length) none).map fun x => (x.length : Int))) ?_ Evs.nil) (Bui.sum _) (by decide +kernel) rfl (O.free _ (by decide))) (Bin.sub _ _)
  · rw [show aI (pickG wide (some 1) (some (asked.length + 1)) none) = .list (pick (wide.map .int) (some 1) (some (asked.length + 1)) none) by rw [pick_map]]
    exact Ev.slice (Ev.cel (x := "wide") rfl rfl) (Pt.some Ev.cint) (Pt.some (Ev.bin (hlen rfl rfl rfl) Ev.cint (Bin.add _ _))) Pt.none (by simp) (by simp; unfold sizeLine; omega)
  · rw [show aI ((pickG tall none (some asked.length) none).map fun x => (x.length : Int)) = .list ((pickG tall none (some asked.length) none).map fun x => AV.int (x.length : Int)) by simp [aI, List.map_map, Function.comp_def]]
    refine Ev.comp [] (xs := (pickG tall none (some asked.length) none).map .str) (Src.list ?_) (fun Lc D I => Cm.map fun x hx => ⟨Sto.loc rfl, ?_⟩) (fun Lc D I => Cap.nil) rfl (by simp only [List.length_map]; unfold sizeLine; omega)
    · rw [← pick_map]
      exact Ev.slice (Ev.cel (x := "tall") rfl rfl) Pt.none (Pt.some (hlen rfl rfl rfl)) Pt.none (by simp) (by simp; unfold sizeLine; omega)
    · exact Ev.bcall (x := "len") (id := "len") (Evs.cons (Ev.loc (x := "x") rfl rfl) Evs.nil) (Bui.len_str _ (by have := htl x hx; omega)) (by decide +kernel) rfl (O.free _ (by decide))
end
end SC
namespace SC
open PySem PySem.Spec PySem.Calls PyProof.Rows PySem.W
set_option maxRecDepth 100000
variable {W : Wd}
section
variable {Ar : Around} {L f : Addr} {cd pm doc : Value} {ent : Heap} {mu : List Addr}
def rho14 (due : List Int) (tall : List Str) (asked kept : List Str) (nt : Int) : Rho := [("nets", .int nt), ("kept", aS kept), ("asked", aS asked), ("tall", aS tall), ("due", aI due)]
set_option maxHeartbeats 4000000 in
theorem law14 (O : OkW W) (due : List Int) (tall asked kept : List Str) (nt ov : Int) (T : Str) (hT : Txt.join "" asked ++ Txt.mul "))" (ov.fdiv 2) = T) (hl : T.length ≤ 2000) (hj : JoinOk "" asked = true) (ho : -100 ≤ ov ∧ ov ≤ 100) (hp : parS T = decide (0 < nt)) (rm : Rm Ar 20) {R : AV}
    (hr : Run W false (lC Ar L f cd pm doc ent mu) mu (rho14 due tall asked kept nt) (dLaw.body.drop 14) R) :
    Run W false (lC Ar L f cd pm doc ent mu) mu (rho13 due tall asked kept nt ov) (dLaw.body.drop 13) R := by
  have rm7 : Rm (lC Ar L f cd pm doc ent mu).A 7 := (rm.deeper _).le (by omega)
  have pc := par_con O T hl
  have hlen := hl
  rw [← hT, Str.length_append] at hlen
  refine Run.cons (Ex.ifs (c := !(parS T == decide (0 < nt))) (Tr.cmp (A := .bool (parS T)) (B := .bool (decide (0 < nt))) (Ev.ucall (O.defs 5 (by decide)) rfl rfl (Evs.cons (R := .str T) ?_ Evs.nil) pc rm7 rfl) (Ev.cmp (Ev.loc (x := "nets") rfl rfl) Ev.cint (Cmp.gt nt 0)) (Cmp.isnot_bool _ _)) (fun h => by rw [hp] at h; simp at h) (fun _ => Exs.nil)) (Run.pre hr (Sub.cons rfl (Sub.cons rfl (Sub.cons rfl (Sub.cons rfl (Sub.cons rfl Sub.nil))))))
  rw [← hT]
  have hd : -50 ≤ ov.fdiv 2 ∧ ov.fdiv 2 ≤ 50 := by
    rw [Int.fdiv_eq_ediv_of_nonneg _ (by decide)]; omega
  refine Ev.bin (Ev.meth F.plainAttrs_str F.slot_str_join F.type_str_join Pln.str Ev.cstr (Evs.cons (R := aS asked) (Ev.cel (x := "asked") rfl rfl) Evs.nil) (Bui.join "" asked hj)) (Ev.bin Ev.cstr (Ev.bin (Ev.loc (x := "over") rfl rfl) Ev.cint (Bin.floordiv ov 2 (by decide) (by decide))) (Bin.str_mul "))" (ov.fdiv 2) (mulOk1 (by omega) (by omega) (by decide)))) (Bin.str_add _ _ (by unfold sizeLine; omega))
set_option maxHeartbeats 4000000 in
theorem law15 (due : List Int) (tall asked kept : List Str) (nt : Int) (hok : ∀ v ∈ kept, PyData.strOk v = true) (hok' : ∀ v ∈ asked, PyData.strOk v = true) (hp : (kept == asked) = (nt == 1)) {R : AV}
    (hr : Run W false (lC Ar L f cd pm doc ent mu) mu (rho14 due tall asked kept nt) (dLaw.body.drop 15) R) :
    Run W false (lC Ar L f cd pm doc ent mu) mu (rho14 due tall asked kept nt) (dLaw.body.drop 14) R := by
  refine Run.cons (Ex.ifs (c := !((kept == asked) == (nt == 1))) (Tr.cmp (A := .bool (kept == asked)) (B := .bool (nt == 1)) (Ev.cmp (A := aS kept) (B := aS asked) (Ev.loc (x := "kept") rfl rfl) (Ev.cel (x := "asked") rfl rfl) (Cmp.deq (shaped_strs kept hok) (shaped_strs asked hok') (eqv_strs _ _))) (Ev.cmp (Ev.loc (x := "nets") rfl rfl) Ev.cint (Cmp.eq nt 1)) (Cmp.isnot_bool _ _)) (fun h => by rw [hp] at h; simp at h) (fun _ => Exs.nil)) hr
set_option maxHeartbeats 4000000 in
theorem law16 (O : OkW W) (due : List Int) (tall asked kept : List Str) (nt : Int) (ms : List Int) (hr : 5 ≤ tall.length) (hz : ∀ x ∈ tall, x.length ≤ 1000) (h64 : due.length < 64) (hperm : ms.Perm due) (hs : ms.Pairwise (· ≤ ·))
    (hp : (toldL tall == pickG ms none none (some (-1))) = (nt == 1)) (rm : Rm Ar 20) :
    Run W false (lC Ar L f cd pm doc ent mu) mu (rho14 due tall asked kept nt) (dLaw.body.drop 15) (.bool true) := by
  have rm4 : Rm (lC Ar L f cd pm doc ent mu).A 4 := (rm.deeper _).le (by omega)
  have e : (true : Bool) = ((toldL tall == pickG ms none none (some (-1))) == (nt == 1)) := by rw [hp]; simp
  rw [e]
  have ml : ms.length < 64 := by rw [hperm.length_eq]; exact h64
  refine Run.of (Exs.stop (Ex.ret (Ev.cmp (A := .bool (toldL tall == pickG ms none none (some (-1)))) (B := .bool (nt == 1)) (Ev.cmp (A := aI (toldL tall)) (B := aI (pickG ms none none (some (-1)))) (Ev.gen (Ev.ucall (O.defs 20 (by decide)) rfl rfl (Evs.cons (Ev.cel (x := "tall") rfl rfl) Evs.nil) (told_con O tall hr hz) rm4 rfl)) ?_ (Cmp.deq (shaped_ints _) (shaped_ints _) (eqv_ints _ _))) (Ev.cmp (Ev.loc (x := "nets") rfl rfl) Ev.cint (Cmp.eq nt 1)) (Cmp.is_bool _ _))) (by simp)) ?_
  · rw [show aI (pickG ms none none (some (-1))) = .list (pick (ms.map AV.int) none none (some (-1))) by rw [pick_map]]
    exact Ev.slice (Ev.bcall (x := "sorted") (id := "sorted") (Evs.cons (R := aI due) (Ev.cel (x := "due") rfl rfl) Evs.nil) (Bui.sorted_ints due ms h64 hperm hs) (by decide +kernel) rfl (O.free _ (by decide))) Pt.none Pt.none (Pt.some (Ev.neg Ev.cint)) (by simp) (by simp; unfold sizeLine; omega)
  · exact fun a h => .tail _ (List.mem_append_right _ h)
end
end SC
namespace SC
open PySem PySem.Spec PySem.Calls PyProof.Rows PySem.W Builtin Builtin.Str
set_option maxRecDepth 100000
abbrev tl (x : Str) : List Nat := x.cps.toList
abbrev mk (l : List Nat) : Str := ⟨l.toArray⟩
theorem tl_ext {a b : Str} (h : tl a = tl b) : a = b := Str.ext' (Array.toList_inj.mp h)
theorem tl_mk (l : List Nat) : tl (mk l) = l := rfl
theorem mk_tl (x : Str) : mk (tl x) = x := tl_ext rfl
theorem tl_append (a b : Str) : tl (a ++ b) = tl a ++ tl b := by show (a.cps ++ b.cps).toList = _; simp
theorem tl_len (x : Str) : x.length = (tl x).length := by show x.cps.size = _; simp
theorem len_mk (l : List Nat) : (mk l).length = l.length := by rw [tl_len]
def joinL (y : List Nat) : List (List Nat) → List Nat
  | [] => []
  | [r] => r
  | r :: r' :: rs => r ++ y ++ joinL y (r' :: rs)
theorem tl_join (y : Str) : ∀ l : List Str, tl (Txt.join y l) = joinL (tl y) (l.map tl) := by
  intro l
  show tl (glued y l) = _
  rw [StrLaws.glued_eq_join]
  induction l with
  | nil => rfl
  | cons x r ih =>
    cases r with
    | nil => rfl
    | cons z r =>
      show tl (x ++ y ++ Str.join y (z :: r)) = tl x ++ tl y ++ joinL (tl y) (tl z :: r.map tl)
      rw [tl_append, tl_append, ih]; rfl
theorem joinL_nil : ∀ l : List (List Nat), joinL [] l = l.flatten
  | [] => rfl
  | [r] => by simp [joinL]
  | r :: r' :: rs => by rw [joinL, joinL_nil (r' :: rs)]; simp
theorem tl_join0 (l : List Str) : tl (Txt.join "" l) = (l.map tl).flatten := by
  rw [tl_join]
  show joinL [] _ = _
  exact joinL_nil _
theorem foldl_cat (x : List Nat) : ∀ (n : Nat) (acc : Array Nat), ((List.replicate n x.toArray).foldl (· ++ ·) acc).toList = acc.toList ++ (List.replicate n x).flatten
  | 0, acc => by simp
  | n + 1, acc => by
    rw [List.replicate_succ, List.foldl_cons, foldl_cat x n, List.replicate_succ, List.flatten_cons]; simp
theorem tl_mul (x : Str) (n : Int) : tl (Txt.mul x n) = (List.replicate n.toNat (tl x)).flatten := by
  unfold Txt.mul
  split
  · rename_i h
    have : n.toNat = 0 := by omega
    rw [this]; rfl
  · split
    · rename_i h1 h2
      rcases Bool.or_eq_true _ _ ▸ h2 with h | h
      · have : n = 1 := by simpa using h
        subst this; simp
      · have e : tl x = [] := by
          have : x.length = 0 := by simpa using h
          rw [tl_len] at this
          exact List.length_eq_zero_iff.mp this
        rw [e]
        have : ∀ k : Nat, (List.replicate k ([] : List Nat)).flatten = [] := fun k => by simp
        rw [this]
    · have := foldl_cat (tl x) n.toNat #[]
      simpa [tl] using this
theorem tl_mul1 (c : Nat) (x : Str) (hx : tl x = [c]) (n : Int) : tl (Txt.mul x n) = List.replicate n.toNat c := by
  rw [tl_mul, hx]
  induction n.toNat with
  | zero => rfl
  | succ k ih => rw [List.replicate_succ, List.flatten_cons, ih, List.replicate_succ]; rfl
end SC
namespace SC
open PySem PySem.Spec PySem.Calls PyProof.Rows PySem.W Builtin Builtin.Str
set_option maxRecDepth 100000
theorem tl_cut (t : Array Nat) (a b : Nat) : tl (Rx.cut t a b) = (t.toList.drop a).take (b - a) := by
  show (t.extract a b).toList = _
  simp
theorem drop_at (t : Array Nat) (p : Nat) (h : p < t.size) : t.toList.drop p = t.getD p 0 :: t.toList.drop (p + 1) := by
  have h' : p < t.toList.length := by simpa using h
  rw [List.drop_eq_getElem_cons h']
  simp [h]
theorem tl_cut1 (t : Array Nat) (p b : Nat) (h : p < t.size) (hb : p < b) : tl (Rx.cut t p b) = t.getD p 0 :: tl (Rx.cut t (p + 1) b) := by
  rw [tl_cut, tl_cut, drop_at t p h]
  have : b - p = (b - (p + 1)) + 1 := by omega
  rw [this, List.take_succ_cons]
section
variable {t : Array Nat} {nx : Nat → Option (Nat × Nat)} {rep : Str} {hit : Nat → Option Nat} {G : Nat → List Nat}
theorem nx_ge (n0 : nx t.size = none) (nS : ∀ p, p < t.size → hit p = none → nx p = nx (p + 1)) (nH : ∀ p e, p < t.size → hit p = some e → nx p = some (p, e) ∧ p < e ∧ e ≤ t.size) :
    ∀ (m q a b : Nat), q ≤ t.size → t.size - q ≤ m → nx q = some (a, b) → q ≤ a := by
  intro m
  induction m with
  | zero =>
    intro q a b h1 h2 h3
    have : q = t.size := by omega
    subst this; rw [n0] at h3; cases h3
  | succ m ih =>
    intro q a b h1 h2 h3
    by_cases hq : q = t.size
    · subst hq; rw [n0] at h3; cases h3
    · cases hh : hit q with
      | none =>
        rw [nS q (by omega) hh] at h3
        have := ih (q + 1) a b (by omega) (by omega) h3
        omega
      | some e =>
        rw [(nH q e (by omega) hh).1] at h3
        cases h3; exact Nat.le_refl _
theorem subP_tl (n0 : nx t.size = none) (nS : ∀ p, p < t.size → hit p = none → nx p = nx (p + 1)) (nH : ∀ p e, p < t.size → hit p = some e → nx p = some (p, e) ∧ p < e ∧ e ≤ t.size)
    (g0 : G t.size = []) (gS : ∀ p, p < t.size → hit p = none → G p = t.getD p 0 :: G (p + 1)) (gH : ∀ p e, p < t.size → hit p = some e → G p = tl rep ++ G e) :
    ∀ (m p f : Nat), p ≤ t.size → t.size - p ≤ m → t.size - p < f → ((Rx.subP t nx rep f p).map tl).flatten = G p := by
  intro m
  induction m with
  | zero =>
    intro p f h1 h2 h3
    have : p = t.size := by omega
    subst this
    obtain ⟨f, rfl⟩ : ∃ k, f = k + 1 := ⟨f - 1, by omega⟩
    rw [Rx.subP, n0, g0]
    simp
  | succ m ih =>
    intro p f h1 h2 h3
    obtain ⟨f, rfl⟩ : ∃ k, f = k + 1 := ⟨f - 1, by omega⟩
    by_cases hp : p = t.size
    · subst hp
      rw [Rx.subP, n0, g0]
      simp
    · have hp' : p < t.size := by omega
      cases hh : hit p with
      | some e =>
        obtain ⟨e1, e2, e3⟩ := nH p e hp' hh
        rw [Rx.subP, e1, gH p e hp' hh]
        have := ih e f e3 (by omega) (by omega)
        simp [this]
      | none =>
        have e1 := nS p hp' hh
        have i1 := ih (p + 1) (f + 1) (by omega) (by omega) (by omega)
        rw [gS p hp' hh, ← i1, Rx.subP, Rx.subP, e1]
        cases hn : nx (p + 1) with
        | none =>
          simp only [hp', if_true]
          by_cases hq : p + 1 < t.size
          · simp only [hq, if_true]
            simp [tl_cut1 t p t.size hp' hp']
          · simp only [hq, if_false]
            rw [List.map_cons, List.map_nil, List.flatten_cons, tl_cut1 t p t.size hp' hp', tl_cut]
            have : t.size - (p + 1) = 0 := by omega
            simp [this]
        | some ab =>
          obtain ⟨a, b⟩ := ab
          have hge := nx_ge n0 nS nH _ (p + 1) a b (by omega) (Nat.le_refl _) hn
          dsimp only
          rw [if_pos (show p < a by omega)]
          by_cases hq : p + 1 < a
          · rw [if_pos hq]
            simp [tl_cut1 t p a hp' (by omega)]
          · rw [if_neg hq]
            have : a = p + 1 := by omega
            subst this
            simp [tl_cut1 t p (p + 1) hp' (by omega), tl_cut]
end
def fixL : List Nat → List Nat
  | [] => []
  | c :: r => if c = 13 ∧ r.head? = some 10 then 13 :: 10 :: fixL (r.drop 1) else if c = 10 ∨ c = 13 then 13 :: 10 :: fixL r else c :: fixL r
termination_by l => l.length
decreasing_by all_goals (simp; try omega)
def quoteL : Bool → List Nat → List Nat
  | _, [] => []
  | b, c :: r => if b = true ∧ c = 46 then 46 :: 46 :: quoteL false r else c :: quoteL (c == 10) r
theorem fixS_tl (x : Str) : tl (fixS x) = fixL (tl x) := by
  unfold fixS Rx.subS
  rw [tl_join0]
  refine subP_tl (t := x.cps) (hit := fun p => if Rx.isEol (x.cps.getD p 0) then some (p + Rx.eol x.cps p) else none) (G := fun p => fixL (x.cps.toList.drop p)) ?_ ?_ ?_ ?_ ?_ ?_ x.cps.size 0 _ (by omega) (by omega) (by omega)
  · unfold Rx.nx2
    have : x.cps.size + 1 - x.cps.size = 1 := by omega
    rw [this, Rx.scan2, if_pos (Nat.le_refl _)]
  · intro p hp hh
    have hh' : ¬ Rx.isEol (x.cps.getD p 0) = true := by
      intro q; rw [if_pos q] at hh; cases hh
    have e : x.cps.size + 1 - p = (x.cps.size + 1 - (p + 1)) + 1 := by omega
    unfold Rx.nx2
    rw [e, Rx.scan2, if_neg (by omega), if_neg hh']
  · intro p e hp hh
    by_cases q : Rx.isEol (x.cps.getD p 0) = true
    · rw [if_pos q] at hh
      cases hh
      refine ⟨?_, by have := Rx.eol_pos x.cps p; omega, Rx.eol_le hp⟩
      have e : x.cps.size + 1 - p = (x.cps.size + 1 - (p + 1)) + 1 := by omega
      unfold Rx.nx2
      rw [e, Rx.scan2, if_neg (by omega), if_pos q]
    · rw [if_neg q] at hh; cases hh
  · show fixL (x.cps.toList.drop x.cps.size) = []
    have : x.cps.toList.drop x.cps.size = [] := by simp
    rw [this, fixL]
  · intro p hp hh
    have hh' : ¬ Rx.isEol (x.cps.getD p 0) = true := by
      intro q; rw [if_pos q] at hh; cases hh
    have n1 : x.cps.getD p 0 ≠ 10 := fun q => hh' (by unfold Rx.isEol; rw [q]; rfl)
    have n2 : x.cps.getD p 0 ≠ 13 := fun q => hh' (by unfold Rx.isEol; rw [q]; rfl)
    show fixL (x.cps.toList.drop p) = _ :: fixL (x.cps.toList.drop (p + 1))
    rw [drop_at _ p hp, fixL, if_neg (fun q => n2 q.1), if_neg (fun q => q.elim n1 n2)]
  · intro p e hp hh
    by_cases q : Rx.isEol (x.cps.getD p 0) = true
    · rw [if_pos q] at hh
      have hh := Option.some.inj hh
      have q' : x.cps.getD p 0 = 10 ∨ x.cps.getD p 0 = 13 := by
        unfold Rx.isEol at q
        simpa using q
      show fixL (x.cps.toList.drop p) = [13, 10] ++ fixL (x.cps.toList.drop e)
      rw [drop_at _ p hp, fixL]
      unfold Rx.eol at hh
      by_cases h2 : x.cps.getD p 0 = 13 ∧ p + 1 < x.cps.size ∧ x.cps.getD (p + 1) 0 = 10
      · rw [if_pos h2] at hh
        subst hh
        rw [if_pos ⟨h2.1, by rw [drop_at _ _ h2.2.1]; simp [h2.2.2]⟩, List.drop_drop]
        rfl
      · rw [if_neg h2] at hh
        subst hh
        rw [if_neg ?_, if_pos q']
        · rfl
        · rintro ⟨a1, a2⟩
          by_cases h3 : p + 1 < x.cps.size
          · rw [drop_at _ _ h3] at a2
            exact h2 ⟨a1, h3, by simpa using a2⟩
          · rw [List.drop_eq_nil_of_le (by simp; omega)] at a2
            cases a2
    · rw [if_neg q] at hh; cases hh
theorem subS1_tl (x : Str) : tl (Rx.subS (Rx.nx1 x.cps) ".." x) = quoteL true (tl x) := by
  unfold Rx.subS
  rw [tl_join0]
  refine subP_tl (t := x.cps) (hit := fun p => if Rx.hit1 x.cps p then some (p + 1) else none) (G := fun p => quoteL (p == 0 || x.cps.getD (p - 1) 0 == 10) (x.cps.toList.drop p)) ?_ ?_ ?_ ?_ ?_ ?_ x.cps.size 0 _ (by omega) (by omega) (by omega)
  · unfold Rx.nx1
    have : x.cps.size + 1 - x.cps.size = 1 := by omega
    have h : Rx.hit1 x.cps x.cps.size = false := by unfold Rx.hit1; simp
    rw [this, Rx.scan1, h]; rfl
  · intro p hp hh
    have hh' : ¬ Rx.hit1 x.cps p = true := by
      intro q; rw [if_pos q] at hh; cases hh
    have e : x.cps.size + 1 - p = (x.cps.size + 1 - (p + 1)) + 1 := by omega
    unfold Rx.nx1
    rw [e, Rx.scan1, if_neg hh']
  · intro p e hp hh
    by_cases q : Rx.hit1 x.cps p = true
    · rw [if_pos q] at hh
      cases hh
      refine ⟨?_, by omega, by omega⟩
      have e : x.cps.size + 1 - p = (x.cps.size + 1 - (p + 1)) + 1 := by omega
      unfold Rx.nx1
      rw [e, Rx.scan1, if_pos q]
    · rw [if_neg q] at hh; cases hh
  · show quoteL _ (x.cps.toList.drop x.cps.size) = []
    have : x.cps.toList.drop x.cps.size = [] := by simp
    rw [this, quoteL]
  · intro p hp hh
    have hh' : ¬ Rx.hit1 x.cps p = true := by
      intro q; rw [if_pos q] at hh; cases hh
    show quoteL _ (x.cps.toList.drop p) = x.cps.getD p 0 :: quoteL (p + 1 == 0 || x.cps.getD (p + 1 - 1) 0 == 10) (x.cps.toList.drop (p + 1))
    rw [drop_at _ p hp, quoteL, if_neg ?_]
    · rfl
    · rintro ⟨a1, a2⟩
      refine hh' ?_
      unfold Rx.hit1
      rw [a1, a2]; simp [hp]
  · intro p e hp hh
    by_cases q : Rx.hit1 x.cps p = true
    · rw [if_pos q] at hh
      have hh := Option.some.inj hh
      subst hh
      unfold Rx.hit1 at q
      rw [Bool.and_eq_true, Bool.and_eq_true] at q
      have q3 : x.cps.getD p 0 = 46 := by simpa using q.2.2
      show quoteL _ (x.cps.toList.drop p) = [46, 46] ++ quoteL (p + 1 == 0 || x.cps.getD (p + 1 - 1) 0 == 10) (x.cps.toList.drop (p + 1))
      rw [drop_at _ p hp, quoteL, if_pos ⟨q.1, q3⟩]
      have : (p + 1 == 0 || x.cps.getD (p + 1 - 1) 0 == 10) = false := by
        show (p + 1 == 0 || x.cps.getD p 0 == 10) = false
        rw [q3]; rfl
      rw [this]; rfl
    · rw [if_neg q] at hh; cases hh
end SC
namespace SC
open PySem PySem.Spec PySem.Calls PyProof.Rows PySem.W Builtin Builtin.Str
set_option maxRecDepth 100000
def rowE (x : Int) : List Nat := List.replicate (x.fmod 5).toNat 46 ++ tl (endS x)
def rowsN (l : List Nat) : List Nat := l.flatMap fun n => List.replicate n 46 ++ [13, 10]
def dN (d : List Int) : List Nat := d.map fun x => (x.fmod 5).toNat
def up1 (n : Nat) : Nat := n + min n 1
theorem mail_tl (d : List Int) : tl (mailS d) = d.flatMap rowE := by
  have key : ∀ (d : List Int) (m : Str), tl (d.foldl mailStep m) = tl m ++ d.flatMap rowE := by
    intro d
    induction d with
    | nil => intro m; simp
    | cons x r ih =>
      intro m
      rw [List.foldl_cons, ih, mailStep, tl_append, tl_append, tl_mul1 46 "." rfl, List.flatMap_cons, rowE]
      simp
  rw [mailS, key]; rfl
theorem endS_cases (x : Int) : tl (endS x) = [13, 10] ∨ (tl (endS x) = [10] ∧ 0 < x.fmod 5) ∨ tl (endS x) = [13] := by
  unfold endS
  obtain ⟨h0, h1⟩ := fmod_range (x.fdiv 5) 3 (by omega)
  generalize (x.fdiv 5).fmod 3 = z at *
  have : z = 0 ∨ z = 1 ∨ z = 2 := by omega
  by_cases h : 0 < x.fmod 5
  · simp only [h, if_true]
    rcases this with rfl | rfl | rfl
    · exact .inl rfl
    · exact .inr (.inl ⟨rfl, trivial⟩)
    · exact .inr (.inr rfl)
  · simp only [h, if_false]
    rcases this with rfl | rfl | rfl
    · exact .inl rfl
    · exact .inl rfl
    · exact .inr (.inr rfl)
theorem fixL_dots (r : List Nat) : ∀ n, fixL (List.replicate n 46 ++ r) = List.replicate n 46 ++ fixL r
  | 0 => rfl
  | n + 1 => by
    rw [List.replicate_succ, List.cons_append, fixL, if_neg (by simp), if_neg (by simp), fixL_dots r n]; rfl
theorem fixL_crlf (r : List Nat) : fixL (13 :: 10 :: r) = 13 :: 10 :: fixL r := by
  rw [fixL, if_pos ⟨rfl, rfl⟩]; rfl
theorem fixL_lf (r : List Nat) : fixL (10 :: r) = 13 :: 10 :: fixL r := by
  rw [fixL, if_neg (by simp), if_pos (.inl rfl)]
theorem fixL_cr (r : List Nat) (h : r.head? ≠ some 10) : fixL (13 :: r) = 13 :: 10 :: fixL r := by
  rw [fixL, if_neg (fun q => h q.2), if_pos (.inr rfl)]
theorem mail_head : ∀ d : List Int, (d.flatMap rowE).head? ≠ some 10
  | [] => by simp
  | x :: d => by
    rw [List.flatMap_cons, rowE]
    cases hn : (x.fmod 5).toNat with
    | zero =>
      rcases endS_cases x with e | ⟨e, h⟩ | e
      · rw [e]; simp
      · omega
      · rw [e]; simp
    | succ n => rw [List.replicate_succ]; simp
theorem fix_mail : ∀ d : List Int, fixL (d.flatMap rowE) = rowsN (dN d)
  | [] => by simp [rowsN, dN, fixL]
  | x :: d => by
    have ih := fix_mail d
    rw [List.flatMap_cons, rowE, List.append_assoc, fixL_dots]
    have : rowsN (dN (x :: d)) = List.replicate (x.fmod 5).toNat 46 ++ 13 :: 10 :: rowsN (dN d) := by simp [rowsN, dN]
    rw [this, ← ih]
    congr 1
    rcases endS_cases x with e | ⟨e, h⟩ | e
    · rw [e]; exact fixL_crlf _
    · rw [e]; exact fixL_lf _
    · rw [e]; exact fixL_cr _ (mail_head d)
theorem fix_mailS (d : List Int) : fixS (mailS d) = mk (rowsN (dN d)) := by
  refine tl_ext ?_
  rw [fixS_tl, mail_tl, fix_mail]
theorem quoteL_dots (r : List Nat) : ∀ n, quoteL false (List.replicate n 46 ++ 13 :: r) = List.replicate n 46 ++ quoteL false (13 :: r)
  | 0 => rfl
  | n + 1 => by
    rw [List.replicate_succ, List.cons_append, quoteL, if_neg (by simp)]
    rw [show ((46 : Nat) == 10) = false from rfl, quoteL_dots r n]; rfl
theorem quoteL_row (r : List Nat) (n : Nat) : quoteL true (List.replicate n 46 ++ 13 :: 10 :: r) = List.replicate (up1 n) 46 ++ 13 :: 10 :: quoteL true r := by
  cases n with
  | zero =>
    show quoteL true (13 :: 10 :: r) = 13 :: 10 :: quoteL true r
    rw [quoteL, if_neg (by simp), quoteL, if_neg (by simp)]; rfl
  | succ n =>
    have e : up1 (n + 1) = n + 1 + 1 := by unfold up1; omega
    rw [e, List.replicate_succ, List.cons_append, quoteL, if_pos ⟨rfl, rfl⟩, quoteL_dots, quoteL, if_neg (by simp), quoteL, if_neg (by simp), List.replicate_succ, List.replicate_succ]
    rfl
theorem quote_rows : ∀ l : List Nat, quoteL true (rowsN l) = rowsN (l.map up1)
  | [] => rfl
  | n :: l => by
    have e1 : rowsN (n :: l) = List.replicate n 46 ++ 13 :: 10 :: rowsN l := by simp [rowsN]
    have e2 : rowsN ((n :: l).map up1) = List.replicate (up1 n) 46 ++ 13 :: 10 :: rowsN (l.map up1) := by simp [rowsN]
    rw [e1, e2, quoteL_row, quote_rows l]
theorem quote_mailS (d : List Int) : quoteS (mailS d) = mk (rowsN ((dN d).map up1)) := by
  refine tl_ext ?_
  unfold quoteS
  rw [subS1_tl, fix_mailS, tl_mk, quote_rows]
theorem tl_dotS (n : Nat) (y : Int) (hy : y = 0 ∨ y = 1) : tl (dotS n y) = List.replicate (if y = 0 then n else up1 n) 46 ++ [13, 10] := by
  unfold dotS
  rw [tl_append, tl_mul1 46 "." rfl]
  have : ((n : Int) + y * (if 1 < (n : Int) then 1 else (n : Int))).toNat = if y = 0 then n else up1 n := by
    rcases hy with rfl | rfl
    · simp
    · simp only [show ¬ (1 : Int) = 0 from by decide, if_false]
      unfold up1
      split <;> omega
  rw [this]; rfl
theorem rows_flat (f : Nat → Nat) : ∀ l : List Nat, rowsN (l.map f) = (l.map fun n => List.replicate (f n) 46 ++ [13, 10]).flatten
  | [] => rfl
  | n :: l => by
    have := rows_flat f l
    simp only [rowsN, List.map_cons, List.flatMap_cons, List.flatten_cons] at *
    rw [this]
theorem due_eq (d : List Int) : (d.map fun x => x.fmod 5) = (dN d).map fun n : Nat => (n : Int) := by
  unfold dN
  rw [List.map_map]
  refine List.map_congr_left fun x _ => ?_
  have := (fmod_range x 5 (by omega)).1
  simp only [Function.comp]; omega
theorem law4_S (l : List Nat) : mk (rowsN (l.map up1)) = Txt.join "" ((l.map fun n : Nat => (n : Int)).map fun x => dotS x 1) := by
  refine tl_ext ?_
  rw [tl_join0, tl_mk, rows_flat, List.map_map, List.map_map]
  congr 1
  refine List.map_congr_left fun n _ => ?_
  exact (tl_dotS n 1 (.inr rfl)).symm
theorem law4_P (l : List Nat) : mk (rowsN l) = Txt.join "" ((l.map fun n : Nat => (n : Int)).map fun x => dotS x 0) := by
  refine tl_ext ?_
  have e := rows_flat id l
  rw [List.map_id] at e
  rw [tl_join0, tl_mk, e, List.map_map, List.map_map]
  congr 1
  refine List.map_congr_left fun n _ => ?_
  exact (tl_dotS n 0 (.inl rfl)).symm
end SC
namespace SC
open PySem PySem.Spec PySem.Calls PyProof.Rows PySem.W Builtin Builtin.Str StrLaws
set_option maxRecDepth 100000
theorem at_iff (x y : Str) (k : Nat) : At x y x.length k ↔ k + y.length ≤ x.length ∧ ((tl x).drop k).take y.length = tl y := by
  unfold At
  rw [subAt_eq, beq_iff_eq]
theorem strSub_mk (x : Str) (a : Nat) (R L : List Nat) (h : (tl x).drop a = R ++ L) : strSub x a (a + R.length) = mk R := by
  refine tl_ext ?_
  show (strSub x a (a + R.length)).cps.toList = _
  rw [strSub_toList]
  have : a + R.length - a = R.length := by omega
  rw [this]
  have h' : x.cps.toList.drop a = R ++ L := h
  rw [h']; simp
theorem not_at {x y : Str} {c : Nat} {y' R L : List Nat} {a i : Nat} (hy : tl y = c :: y') (h : (tl x).drop a = R ++ L) (hc : c ∉ R) (h1 : a ≤ i) (h2 : i < a + R.length) (hA : At x y x.length i) : False := by
  obtain ⟨_, e⟩ := (at_iff x y i).mp hA
  have e2 : (tl x).drop i = (R ++ L).drop (i - a) := by rw [← h, List.drop_drop]; congr 1; omega
  have h3 : i - a < R.length := by omega
  rw [e2, List.drop_append_of_le_length (by omega), hy, List.drop_eq_getElem_cons h3] at e
  have hl : y.length = y'.length + 1 := by rw [tl_len, hy]; rfl
  rw [hl] at e
  simp only [List.cons_append, List.take_succ_cons, List.cons.injEq] at e
  exact hc (e.1 ▸ List.getElem_mem h3)
theorem is_at {x y : Str} {R L : List Nat} {a : Nat} (ha : a ≤ x.length) (h : (tl x).drop a = R ++ (tl y ++ L)) : At x y x.length (a + R.length) := by
  refine (at_iff x y _).mpr ?_
  have hlen := congrArg List.length h
  have hx := tl_len x
  have hy := tl_len y
  rw [List.length_drop, List.length_append, List.length_append] at hlen
  refine ⟨by omega, ?_⟩
  rw [← List.drop_drop, h, List.drop_left, hy, List.take_left]
theorem parts_segs (x y : Str) {c : Nat} {y' : List Nat} (hy : tl y = c :: y') : ∀ (Rs : List (List Nat)) (R : List Nat) (cuts : List Nat) (a f : Nat), ChainG x y x.length a cuts f → (∀ k, f ≤ k → ¬ At x y x.length k) → a ≤ x.length →
    (tl x).drop a = joinL (tl y) (R :: Rs) → (∀ r ∈ R :: Rs, c ∉ r) → partsFrom x y.length a cuts = (R :: Rs).map mk := by
  intro Rs
  induction Rs with
  | nil =>
    intro R cuts a f hG hn ha hd hc
    have hd' : (tl x).drop a = R ++ [] := by rw [hd]; simp [joinL]
    cases cuts with
    | nil =>
      have hl : a + R.length = x.length := by
        have := congrArg List.length hd'
        have hx := tl_len x
        rw [List.length_drop, List.length_append, List.length_nil] at this; omega
      show [strSub x a x.length] = [mk R]
      rw [← hl, strSub_mk x a R [] hd']
    | cons i r =>
      exfalso
      obtain ⟨h1, h2, _⟩ := hG
      have hl : a + R.length = x.length := by
        have := congrArg List.length hd'
        have hx := tl_len x
        rw [List.length_drop, List.length_append, List.length_nil] at this; omega
      refine not_at hy hd' (hc R (.head _)) h1 ?_ h2
      have := h2.1
      have hyl : y.length = y'.length + 1 := by rw [tl_len, hy]; rfl
      omega
  | cons R2 Rs ih =>
    intro R cuts a f hG hn ha hd hc
    have hd' : (tl x).drop a = R ++ (tl y ++ joinL (tl y) (R2 :: Rs)) := by rw [hd, joinL, List.append_assoc]
    have hA := is_at ha hd'
    cases cuts with
    | nil =>
      have e : f = a := hG
      exact absurd hA (hn _ (by omega))
    | cons i r =>
      obtain ⟨h1, h2, h3, h4⟩ := hG
      have e : i = a + R.length := by
        have q1 : ¬ i < a + R.length := fun q => not_at hy hd' (hc R (.head _)) h1 q h2
        have q2 : ¬ a + R.length < i := fun q => h3 _ (by omega) q hA
        omega
      subst e
      have hb : a + R.length + y.length ≤ x.length := hA.1
      have hd2 : (tl x).drop (a + R.length + y.length) = joinL (tl y) (R2 :: Rs) := by
        rw [← List.drop_drop, ← List.drop_drop, hd', List.drop_left, tl_len y, List.drop_left]
      show strSub x a (a + R.length) :: partsFrom x y.length (a + R.length + y.length) r = mk R :: (R2 :: Rs).map mk
      rw [strSub_mk x a R _ hd', ih R2 r _ f h4 hn hb hd2 (fun q hq => hc q (.tail _ hq))]
theorem split_segs (x y : Str) {c : Nat} {y' : List Nat} (hy : tl y = c :: y') (hk : Builtin.Str.strKind y = 1) (R : List Nat) (Rs : List (List Nat)) (hd : tl x = joinL (tl y) (R :: Rs)) (hc : ∀ r ∈ R :: Rs, c ∉ r) : Txt.split x y = (R :: Rs).map mk := by
  have hw : 1 ≤ y.length := by rw [tl_len, hy]; simp
  obtain ⟨f, hG, hn⟩ := occ_tight x y hw
  have key := parts_segs x y hy Rs R _ 0 f hG hn (Nat.zero_le _) (by rw [List.drop_zero]; exact hd) hc
  have one : x = mk R → Rs = [] → [x] = (R :: Rs).map mk := fun e1 e2 => by rw [e2, e1]; rfl
  unfold Txt.split
  by_cases h1 : (decide (x.length < y.length) || decide (Builtin.Str.strKind x < Builtin.Str.strKind y)) = true
  · rw [if_pos h1]
    have hlt : x.length < y.length := by
      rcases Bool.or_eq_true _ _ ▸ h1 with h | h
      · simpa using h
      · have h : Builtin.Str.strKind x < 1 := by rw [← hk]; simpa using h
        unfold Builtin.Str.strKind at h
        split at h
        · omega
        · split at h <;> omega
    have e2 : Rs = [] := by
      cases Rs with
      | nil => rfl
      | cons R2 Rs =>
        exfalso
        have h2 := congrArg List.length hd
        rw [joinL, ← tl_len, List.length_append, List.length_append, ← tl_len] at h2
        omega
    subst e2
    exact one (tl_ext hd) rfl
  · rw [if_neg h1]
    by_cases h2 : (occurrences x y 0 x.length (x.length + 1)).isEmpty = true
    · rw [if_pos h2]
      have e : occurrences x y 0 x.length (x.length + 1) = [] := by simpa using h2
      rw [e] at key
      rw [← key]
      show [x] = [strSub x 0 x.length]
      rw [sub_whole]
    · rw [if_neg h2, partsBetween_eq, key]
theorem tl_strjoin (z : Str) (segs : List (List Nat)) : tl (Str.join z (segs.map mk)) = joinL (tl z) segs := by
  have := tl_join z (segs.map mk)
  show tl (Str.join z (segs.map mk)) = _
  rw [← glued_eq_join]
  show tl (Txt.join z (segs.map mk)) = _
  rw [this, List.map_map]
  congr 1
  have : (tl ∘ mk) = _root_.id := by funext l; rfl
  rw [this, List.map_id]
theorem replace_segs (x y z : Str) {c : Nat} {y' : List Nat} (hy : tl y = c :: y') (R : List Nat) (Rs : List (List Nat)) (hd : tl x = joinL (tl y) (R :: Rs)) (hc : ∀ r ∈ R :: Rs, c ∉ r) : tl (Txt.replace x y z) = joinL (tl z) (R :: Rs) := by
  have hw : 1 ≤ y.length := by rw [tl_len, hy]; simp
  obtain ⟨f, hG, hn⟩ := occ_tight x y hw
  have key := parts_segs x y hy Rs R _ 0 f hG hn (Nat.zero_le _) (by rw [List.drop_zero]; exact hd) hc
  have hz : (y.length == 0) = false := beq_eq_false_iff_ne.mpr (by omega)
  unfold Txt.replace
  rw [hz, Bool.false_and, Bool.or_false]
  by_cases h2 : (occurrences x y 0 x.length (x.length + 1)).isEmpty = true
  · rw [if_pos h2]
    have e : occurrences x y 0 x.length (x.length + 1) = [] := by simpa using h2
    rw [e] at key
    have key' : [x] = (R :: Rs).map mk := by rw [← key]; show [x] = [strSub x 0 x.length]; rw [sub_whole]
    cases Rs with
    | nil => simp at key'; rw [key']; rfl
    | cons R2 Rs => simp at key'
  · rw [if_neg h2, partsBetween_eq, key, glued_eq_join, tl_strjoin]
theorem replace1 (x z : Str) (c : Nat) : tl (Txt.replace x (mk [c]) z) = (tl x).flatMap fun a => if a = c then tl z else [a] := by
  have hr : ∀ l : List Nat, c ∉ l → (l.flatMap fun a => if a = c then tl z else [a]) = l := by
    intro l
    induction l with
    | nil => intro _; rfl
    | cons a r ih =>
      intro h
      rw [List.flatMap_cons, if_neg (show ¬ a = c from fun q => h (by rw [q]; exact List.mem_cons_self ..)), ih (fun q => h (List.mem_cons_of_mem _ q))]; rfl
  have hj : ∀ parts : List Str, (∀ p ∈ parts, c ∉ tl p) → ((tl (Str.join (mk [c]) parts)).flatMap fun a => if a = c then tl z else [a]) = tl (Str.join z parts) := by
    intro parts
    induction parts with
    | nil => intro _; rfl
    | cons p r ih =>
      intro h
      cases r with
      | nil => exact hr _ (h p (.head _))
      | cons q r =>
        have i := ih fun a ha => h a (.tail _ ha)
        show ((tl (p ++ mk [c] ++ Str.join (mk [c]) (q :: r))).flatMap _) = tl (p ++ z ++ Str.join z (q :: r))
        rw [tl_append, tl_append, tl_append, tl_append, List.flatMap_append, List.flatMap_append, i, hr _ (h p (.head _))]
        congr 2
        show ([c].flatMap _) = _
        simp
  have e := replace_one x z c
  have e' : Txt.replace x (mk [c]) z = Str.join z (Txt.split x (mk [c])) := e
  rw [e', ← hj _ (split_free x c)]
  have e2 : Str.join (mk [c]) (Txt.split x (mk [c])) = x := join_split x (mk [c])
  rw [e2]
end SC
namespace SC
open PySem PySem.Spec PySem.Calls PyProof.Rows PySem.W Builtin Builtin.Str StrLaws
set_option maxRecDepth 100000
def dot (n : Nat) : Str := mk (List.replicate n 46)
theorem rows_join (y : List Nat) : ∀ l : List Nat, (l.flatMap fun n => List.replicate n 46 ++ y) = joinL y (l.map (List.replicate · 46) ++ [[]])
  | [] => rfl
  | n :: l => by
    have ih := rows_join y l
    rw [List.flatMap_cons, ih]
    cases l with
    | nil => rfl
    | cons m l =>
      show _ = List.replicate n 46 ++ y ++ joinL y _
      rfl
theorem segs_cons (l : List Nat) : ∃ R Rs, l.map (List.replicate · 46) ++ [[]] = R :: Rs := by cases l <;> exact ⟨_, _, rfl⟩
theorem segs_free (l : List Nat) (c : Nat) (h : c ≠ 46) : ∀ r ∈ l.map (List.replicate · 46) ++ [[]], c ∉ r := by
  intro r hr
  rcases List.mem_append.mp hr with q | q
  · obtain ⟨n, _, rfl⟩ := List.mem_map.mp q
    intro z; exact h (List.eq_of_mem_replicate z)
  · rw [List.mem_singleton.mp q]; simp
theorem split_rows (l : List Nat) : Txt.split (mk (rowsN l)) "\r\n" = l.map dot ++ [("" : Str)] := by
  obtain ⟨R, Rs, e⟩ := segs_cons l
  have hd : tl (mk (rowsN l)) = joinL (tl "\r\n") (R :: Rs) := by rw [← e]; exact rows_join _ l
  rw [split_segs (mk (rowsN l)) "\r\n" (c := 13) (y' := [10]) rfl (by decide +kernel) R Rs hd (by rw [← e]; exact segs_free l 13 (by decide)), ← e, List.map_append, List.map_map]
  rfl
theorem ws_tl (l : List Nat) : tl (wsT (mk (rowsN l))) = (l.flatMap fun n => List.replicate n 32 ++ [9]) ++ [120, 32, 9] := by
  obtain ⟨R, Rs, e⟩ := segs_cons l
  have hd : tl (mk (rowsN l)) = joinL (tl "\r\n") (R :: Rs) := by rw [← e]; exact rows_join _ l
  have h1 := replace_segs (mk (rowsN l)) "\r\n" "\t" (c := 13) (y' := [10]) rfl R Rs hd (by rw [← e]; exact segs_free l 13 (by decide))
  rw [← e] at h1
  have h1' : tl (Txt.replace (mk (rowsN l)) "\r\n" "\t") = l.flatMap fun n => List.replicate n 46 ++ [9] := by rw [h1, rows_join]; rfl
  unfold wsT
  rw [tl_append]
  have h2 := replace1 (Txt.replace (mk (rowsN l)) "\r\n" "\t") " " 46
  have h2' : tl (Txt.replace (Txt.replace (mk (rowsN l)) "\r\n" "\t") "." " ") = _ := h2
  rw [h2', h1']
  congr 1
  clear h1 h1' h2 h2' hd e
  induction l with
  | nil => rfl
  | cons n l ih =>
    rw [List.flatMap_cons, List.flatMap_append, ih, List.flatMap_cons]
    congr 1
    rw [List.flatMap_append]
    congr 1
    induction n with
    | zero => rfl
    | succ n ih => rw [List.replicate_succ, List.flatMap_cons, ih, List.replicate_succ]; rfl
theorem row_close (n : Nat) : Txt.replace (dot n) "." ")" = mk (List.replicate n 41) := by
  refine tl_ext ?_
  have h2 := replace1 (dot n) ")" 46
  have h2' : tl (Txt.replace (dot n) "." ")") = _ := h2
  rw [h2']
  show (List.replicate n 46).flatMap _ = List.replicate n 41
  induction n with
  | zero => rfl
  | succ n ih => rw [List.replicate_succ, List.flatMap_cons, List.replicate_succ]; rw [ih (replace1 _ _ _) (replace1 _ _ _)]; rfl
theorem dot_len (n : Nat) : (dot n).length = n := by rw [dot, len_mk, List.length_replicate]
def tabN (b : Nat) (cnt : List Nat) : List Nat :=
  (if cnt.length ≤ b then cnt ++ List.replicate (b - cnt.length + 1) 0 else cnt).set b ((if cnt.length ≤ b then cnt ++ List.replicate (b - cnt.length + 1) 0 else cnt).getD b 0 + 1)
abbrev ci (l : List Nat) : List Int := l.map fun n : Nat => (n : Int)
theorem ci_getD (l : List Nat) (k : Nat) : (ci l).getD k 0 = ((l.getD k 0 : Nat) : Int) := by
  rw [List.getD_eq_getElem?_getD, List.getD_eq_getElem?_getD, List.getElem?_map]
  cases l[k]? <;> rfl
theorem tab_cast (b : Nat) (cnt : List Nat) : tabD (b : Int) (ci cnt) = ci (tabN b cnt) := by
  have e : tabC (b : Int) (ci cnt) = ci (if cnt.length ≤ b then cnt ++ List.replicate (b - cnt.length + 1) 0 else cnt) := by
    unfold tabC
    by_cases h : cnt.length ≤ b
    · rw [if_pos (by rw [List.length_map]; omega), if_pos h]
      have : ((b : Int) - (ci cnt).length + 1).toNat = b - cnt.length + 1 := by rw [List.length_map]; omega
      rw [this]
      simp [ci]
    · rw [if_neg (by rw [List.length_map]; omega), if_neg h]
  unfold tabD tabN
  rw [e, Int.toNat_natCast, ci_getD]
  generalize (if cnt.length ≤ b then cnt ++ List.replicate (b - cnt.length + 1) 0 else cnt) = c
  rw [ci, ci, List.map_set]; rfl
theorem ws_spaces : ∀ (k : Nat) (n nt b : Int) (c : List Int) (r : List Str), wsRun ⟨n, nt, b, c⟩ (List.replicate k (mk [32]) ++ r) = wsRun ⟨n + k, nt, b + k, c⟩ r
  | 0, n, nt, b, c, r => by simp
  | k + 1, n, nt, b, c, r => by
    rw [List.replicate_succ, List.cons_append, wsRun_cons, if_pos (by decide +kernel), ws_spaces k]
    dsimp only
    congr 2 <;> (rw [Int.natCast_succ]; omega)
def tabsN (l : List Nat) : List Nat := l.foldl (fun c n => tabN n c) []
theorem ws_rows : ∀ (l : List Nat) (n nt : Int) (c : List Nat), ∃ n' nt', wsRun ⟨n, nt, 0, ci c⟩ ((l.flatMap fun k => List.replicate k (mk [32]) ++ [mk [9]]) ++ [mk [120], mk [32], mk [9]]) = ⟨n', nt', 0, ci (l.foldl (fun c n => tabN n c) c)⟩
  | [], n, nt, c => ⟨n, nt, by
    show wsRun _ [mk [120], mk [32], mk [9]] = _
    rw [wsRun_cons, if_neg (by decide +kernel), if_neg (by decide +kernel)]; rfl⟩
  | k :: l, n, nt, c => by
    rw [List.flatMap_cons, List.append_assoc, List.append_assoc, ws_spaces, List.singleton_append, wsRun_cons, if_neg (by decide +kernel), if_pos (by decide +kernel)]
    dsimp only
    rw [Int.zero_add, tab_cast]
    exact ws_rows l _ _ _
theorem norm_rows (l : List Nat) : normA (wsT (mk (rowsN l))) = nA (ci (tabsN l)) := by
  have e : chars (wsT (mk (rowsN l))) = (l.flatMap fun k => List.replicate k (mk [32]) ++ [mk [9]]) ++ [mk [120], mk [32], mk [9]] := by
    show (tl (wsT (mk (rowsN l)))).map (fun c => mk [c]) = _
    rw [ws_tl, List.map_append, List.map_flatMap]
    congr 2
    funext n
    rw [List.map_append, List.map_replicate]; rfl
  obtain ⟨n', nt', h⟩ := ws_rows l 0 0 []
  unfold normA
  rw [e]
  have h' : wsRun ⟨0, 0, 0, []⟩ ((l.flatMap fun k => List.replicate k (mk [32]) ++ [mk [9]]) ++ [mk [120], mk [32], mk [9]]) = _ := h
  rw [h']; rfl
end SC
namespace SC
open PySem PySem.Spec PySem.Calls PyProof.Rows PySem.W Builtin Builtin.Str StrLaws
set_option maxRecDepth 100000
theorem slc_nat (x : Str) {a b : Nat} (hab : a ≤ b) (hb : b ≤ x.length) : tl (slc x (some (a : Int)) (some (b : Int))) = ((tl x).drop a).take (b - a) := by
  have e : slc x (some (a : Int)) (some (b : Int)) = sliceText x (some (a : Int)) (some (b : Int)) := by unfold slc sliceText; rfl
  rw [e, sliceText_nat x hab hb]
theorem slc_end (x : Str) {a : Nat} (hab : a ≤ x.length) : tl (slc x (some (a : Int)) none) = (tl x).drop a := by
  have e : slc x (some (a : Int)) none = slc x (some (a : Int)) (some ((x.length : Nat) : Int)) := by unfold slc; rw [sliceIdx_none_hi]
  rw [e, slc_nat x hab (Nat.le_refl _), List.take_of_length_le]
  rw [List.length_drop, tl_len]; exact Nat.le_refl _
theorem mk1_eq (a b : Nat) : ((mk [a] : Str) == mk [b]) = (a == b) := by
  rw [Bool.eq_iff_iff, beq_iff_eq, beq_iff_eq]
  constructor
  · intro h
    have := congrArg tl h
    simpa [tl_mk] using this
  · intro h; rw [h]
theorem esc_ne (c b : Nat) : ((("\\" : Str) ++ (mk [c] : Str)) == mk [b]) = false := by
  refine beq_eq_false_iff_ne.mpr fun h => ?_
  have := congrArg (fun z => (tl z).length) h
  rw [tl_append] at this
  simp [tl_mk, show tl ("\\" : Str) = [92] from rfl] at this
def pL : Bool → Int → List Nat → Option Int
  | _, k, [] => some k
  | true, k, _ :: r => pL false k r
  | false, k, c :: r => if c = 92 then pL true k r else if c = 40 then pL false (k + 1) r else if c = 41 then (if k - 1 < 0 then none else pL false (k - 1) r) else pL false k r
theorem par_pL : ∀ (l : List Nat) (e : Bool) (i : Nat) (k : Int), parFrom k (escFrom e i l) = pL e k l
  | [], e, i, k => by
    cases e
    · rfl
    · rw [escFrom, if_pos rfl, parFrom]
      have h1 : ((("\\" : Str)) == "(") = false := by decide +kernel
      have h2 : ((("\\" : Str)) == ")") = false := by decide +kernel
      dsimp only
      rw [h1, h2]; rfl
  | c :: r, true, i, k => by
    rw [escFrom, if_pos rfl, parFrom, pL]
    dsimp only
    have h1 : ((("\\" : Str) ++ (⟨#[c]⟩ : Str)) == "(") = false := esc_ne c 40
    have h2 : ((("\\" : Str) ++ (⟨#[c]⟩ : Str)) == ")") = false := esc_ne c 41
    rw [h1, h2]
    exact par_pL r false (i + 1) k
  | c :: r, false, i, k => by
    have h0 : ((⟨#[c]⟩ : Str) == "\\") = (c == 92) := mk1_eq c 92
    have h1 : ((⟨#[c]⟩ : Str) == "(") = (c == 40) := mk1_eq c 40
    have h2 : ((⟨#[c]⟩ : Str) == ")") = (c == 41) := mk1_eq c 41
    rw [escFrom, if_neg (by decide), h0, pL]
    by_cases q : c = 92
    · rw [if_pos (by simpa using q), if_pos q]
      exact par_pL r true (i + 1) k
    · rw [if_neg (by simpa using q), if_neg q, parFrom]
      dsimp only
      rw [h1, h2]
      by_cases q1 : c = 40
      · rw [if_pos (by simpa using q1), if_pos q1]; exact par_pL r false (i + 1) _
      · rw [if_neg (by simpa using q1), if_neg q1]
        by_cases q2 : c = 41
        · rw [if_pos (by simpa using q2), if_pos q2]
          by_cases q3 : k - 1 < 0
          · rw [if_pos q3, if_pos q3]
          · rw [if_neg q3, if_neg q3]; exact par_pL r false (i + 1) _
        · rw [if_neg (by simpa using q2), if_neg q2]; exact par_pL r false (i + 1) _
theorem parB_eq (y : Str) : parB y = (match pL false 0 (tl y) with | none => false | some k => k == 0) := by
  unfold parB escL
  first
    | (rw [par_pL]; done)
    | (rw [par_pL]; rfl)
def sO : Bool → Bool → List Nat → Option (List Nat)
  | q, _, [] => if q then none else some []
  | q, true, c :: r => if q then sO q false r else (sO q false r).map (c :: ·)
  | q, false, c :: r => if c = 92 then (if q then sO q true r else (sO q true r).map (c :: ·)) else if c = 34 then sO (!q) false r else (if q then sO q false r else (sO q false r).map (c :: ·))
def outOf (x : Str) (c : StripS) : List Nat := ((stripEnd x c).map tl).flatten
theorem strip_noop (x : Str) (c : StripS) (t : Int × Str) (h : (t.2 == ("\"" : Str)) = false) : stripStep x c t = c := by
  unfold stripStep; rw [h]; rfl
theorem take_snoc (x : List Nat) {a i : Nat} {c : Nat} {r : List Nat} (ha : a ≤ i) (h : x.drop i = c :: r) : (x.drop a).take (i + 1 - a) = (x.drop a).take (i - a) ++ [c] := by
  have e : i + 1 - a = (i - a) + 1 := by omega
  have h2 : (x.drop a)[i - a]? = some c := by
    rw [List.getElem?_drop, show a + (i - a) = i by omega]
    have := congrArg List.head? h
    rw [List.head?_drop] at this
    simpa using this
  rw [e, List.take_add_one, h2]; rfl
theorem strip_run (x : Str) : ∀ (r : List Nat) (e : Bool) (i : Nat) (res : List Str) (start : Nat) (op : Option Nat) (out : List Nat), (tl x).drop i = r → i ≤ x.length → start ≤ i → (∀ o, op = some o → start ≤ o ∧ o < i) →
    sO op.isSome e r = some out →
    outOf x ((escFrom e i r).foldl (stripStep x) ((start : Int), op.map fun o : Nat => (o : Int), res)) = (res.map tl).flatten ++ ((tl x).drop start).take ((op.getD i) - start) ++ out := by
  intro r
  induction r with
  | nil =>
    intro e i res start op out hr hi hs hop ho
    have hil : i = x.length := by
      have := congrArg List.length hr
      rw [List.length_drop, ← tl_len] at this
      simp at this; omega
    cases op with
    | some o => simp [sO] at ho
    | none =>
      have ho' : out = [] := by simpa [sO] using ho.symm
      subst ho'
      have hfold : (escFrom e i []).foldl (stripStep x) ((start : Int), none, res) = ((start : Int), none, res) := by
        cases e
        · rfl
        · rw [escFrom, if_pos rfl, List.foldl_cons, strip_noop _ _ _ (by show (("\\" : Str) == "\"") = false; decide +kernel)]; rfl
      show outOf x ((escFrom e i []).foldl (stripStep x) ((start : Int), none, res)) = _
      rw [hfold]
      unfold outOf stripEnd
      dsimp only
      by_cases hl : start < x.length
      · rw [if_pos (by omega), List.map_append, List.flatten_append, List.append_nil]
        congr 1
        show [tl (slc x (some (start : Int)) none)].flatten = _
        rw [slc_end x (by omega), Option.getD_none, List.take_of_length_le (by rw [List.length_drop, ← tl_len]; omega)]
        simp
      · rw [if_neg (by omega), List.append_nil]
        have : i - start = 0 := by omega
        rw [Option.getD_none, this]; simp
  | cons c r ih =>
    intro e i res start op out hr hi hs hop ho
    have hi' : i + 1 ≤ x.length := by
      have := congrArg List.length hr
      rw [List.length_drop, ← tl_len] at this
      simp at this; omega
    have hr' : (tl x).drop (i + 1) = r := by
      rw [← List.drop_drop, hr]; rfl
    have keep : ∀ (e' : Bool) (t : List (Int × Str)), (∀ s, t.foldl (stripStep x) s = s) → (if op.isSome then sO op.isSome e' r else (sO op.isSome e' r).map (c :: ·)) = some out →
        outOf x ((escFrom e' (i + 1) r).foldl (stripStep x) (t.foldl (stripStep x) ((start : Int), op.map fun o : Nat => (o : Int), res))) = (res.map tl).flatten ++ ((tl x).drop start).take ((op.getD i) - start) ++ out := by
      intro e' t ht h
      rw [ht]
      cases op with
      | some o =>
        have h' : sO true e' r = some out := by simpa using h
        have := ih e' (i + 1) res start (some o) out hr' hi' (by omega) (fun o' q => by have := hop o' q; omega) h'
        exact this
      | none =>
        have h : (sO false e' r).map (c :: ·) = some out := by simpa using h
        obtain ⟨out', h1, h2⟩ := Option.map_eq_some_iff.mp h
        have := ih e' (i + 1) res start none out' hr' hi' (by omega) (fun o' q => by cases q) h1
        rw [this, Option.getD_none, Option.getD_none, take_snoc _ hs hr, ← h2]
        simp
    cases e with
    | true =>
      rw [escFrom, if_pos rfl, List.foldl_cons]
      refine keep false [((i : Int), ("\\" : Str) ++ (⟨#[c]⟩ : Str))] (fun s => ?_) (by rw [sO] at ho; exact ho)
      rw [List.foldl_cons, strip_noop _ _ _ (esc_ne c 34)]; rfl
    | false =>
      have h0 : ((⟨#[c]⟩ : Str) == "\\") = (c == 92) := mk1_eq c 92
      rw [escFrom, if_neg (by decide), h0]
      rw [sO] at ho
      by_cases q : c = 92
      · rw [if_pos (by simpa using q)]
        rw [if_pos q] at ho
        exact keep true [] (fun s => rfl) ho
      · rw [if_neg (by simpa using q), List.foldl_cons]
        rw [if_neg q] at ho
        by_cases q2 : c = 34
        · rw [if_pos q2] at ho
          have hq : ((⟨#[c]⟩ : Str) == ("\"" : Str)) = true := by rw [q2]; decide +kernel
          cases op with
          | none =>
            have e1 : stripStep x ((start : Int), none, res) ((i : Int), (⟨#[c]⟩ : Str)) = ((start : Int), some (i : Int), res) := by
              unfold stripStep; dsimp only; rw [if_pos hq]
            show outOf x ((escFrom false (i + 1) r).foldl (stripStep x) (stripStep x ((start : Int), none, res) ((i : Int), (⟨#[c]⟩ : Str)))) = _
            rw [e1]
            have := ih false (i + 1) res start (some i) out hr' hi' (by omega) (fun o' z => by cases z; omega) ho
            exact this
          | some o =>
            have ho1 := hop o rfl
            have ho' : sO false false r = some out := ho
            show outOf x ((escFrom false (i + 1) r).foldl (stripStep x) (stripStep x ((start : Int), some (o : Int), res) ((i : Int), (⟨#[c]⟩ : Str)))) = _
            by_cases hne : start = o
            · have e1 : stripStep x ((start : Int), some (o : Int), res) ((i : Int), (⟨#[c]⟩ : Str)) = (((i + 1 : Nat) : Int), none, res) := by
                unfold stripStep; dsimp only; rw [if_pos hq, if_neg (by simp [hne])]; rfl
              rw [e1]
              have := ih false (i + 1) res (i + 1) none out hr' hi' (Nat.le_refl _) (fun o' z => by cases z) ho'
              have this : outOf x ((escFrom false (i + 1) r).foldl (stripStep x) (((i + 1 : Nat) : Int), none, res)) = _ := this
              rw [this, Option.getD_none, Option.getD_some, Nat.sub_self, hne, Nat.sub_self]; simp
            · have e1 : stripStep x ((start : Int), some (o : Int), res) ((i : Int), (⟨#[c]⟩ : Str)) = (((i + 1 : Nat) : Int), none, res ++ [slc x (some (start : Int)) (some (o : Int))]) := by
                unfold stripStep; dsimp only; rw [if_pos hq, if_pos (show ((start : Int) != (o : Int)) = true from bne_iff_ne.mpr (by omega))]; rfl
              rw [e1]
              have := ih false (i + 1) (res ++ [slc x (some (start : Int)) (some (o : Int))]) (i + 1) none out hr' hi' (Nat.le_refl _) (fun o' z => by cases z) ho'
              have this : outOf x ((escFrom false (i + 1) r).foldl (stripStep x) (((i + 1 : Nat) : Int), none, res ++ [slc x (some (start : Int)) (some (o : Int))])) = _ := this
              rw [this, Option.getD_none, Option.getD_some, Nat.sub_self, List.map_append, List.flatten_append, List.map_cons, slc_nat x ho1.1 (by omega)]
              simp
        · rw [if_neg q2] at ho
          refine keep false [((i : Int), (⟨#[c]⟩ : Str))] (fun s => ?_) ho
          rw [List.foldl_cons, strip_noop _ _ _ ((mk1_eq c 34).trans (by simpa using q2))]; rfl
theorem sO_plain : ∀ (l : List Nat) (e : Bool), 34 ∉ l → sO false e l = some l
  | [], e, _ => rfl
  | c :: r, e, h => by
    have h1 : ¬ c = 34 := fun q => h (by rw [q]; exact List.mem_cons_self ..)
    have h2 : ∀ e, sO false e r = some r := fun e => sO_plain r e fun q => h (List.mem_cons_of_mem _ q)
    cases e with
    | true => rw [sO, h2]; rfl
    | false =>
      rw [sO, if_neg h1, h2, h2]
      split <;> rfl
theorem strip_tl (x : Str) (out : List Nat) (h : sO false false (tl x) = some out) : tl (stripS x) = out := by
  have hc : Txt.contains x "\"" = decide (34 ∈ tl x) := found_one x 34
  unfold stripS
  rw [hc]
  by_cases q : 34 ∈ tl x
  · rw [if_pos (by simpa using q), tl_join0]
    have := strip_run x (tl x) false 0 [] 0 none out rfl (Nat.zero_le _) (Nat.le_refl _) (fun o z => by cases z) h
    have this : outOf x ((escL x).foldl (stripStep x) (0, none, [])) = _ := this
    unfold outOf at this
    rw [this]; simp
  · rw [if_neg (by simpa using q)]
    rw [sO_plain _ _ q] at h
    exact Option.some.inj h
theorem parS_of (x : Str) (out : List Nat) (h : sO false false (tl x) = some out) : parS x = (match pL false 0 out with | none => false | some k => k == 0) := by
  unfold parS
  rw [parB_eq, strip_tl x out h]
end SC
namespace SC
open PySem PySem.Spec PySem.Calls PyProof.Rows PySem.W Builtin Builtin.Str StrLaws
set_option maxRecDepth 100000
def WordOk (w w' : List Nat) : Prop := (∀ t, sO false false (w ++ t) = (sO false false t).map (w' ++ ·)) ∧ ∀ (k : Int) t, pL false k (w' ++ t) = pL false k t
theorem mapid (o : Option (List Nat)) : o = o.map fun x => x := by cases o <;> rfl
theorem word_ok (n : Int) : ∃ w', WordOk (tl (wordS n)) w' := by
  unfold wordS
  obtain ⟨h0, h1⟩ := fmod_range (n.fdiv 15) 6 (by omega)
  generalize (n.fdiv 15).fmod 6 = z at *
  have : z = 0 ∨ z = 1 ∨ z = 2 ∨ z = 3 ∨ z = 4 ∨ z = 5 := by omega
  rcases this with rfl | rfl | rfl | rfl | rfl | rfl
  · exact ⟨[], fun t => mapid _, fun k t => rfl⟩
  · exact ⟨[92, 40], fun t => by
      show sO false false (92 :: 40 :: t) = _
      simp [sO, Function.comp_def], fun k t => by simp [pL]⟩
  · exact ⟨[], fun t => by
      show sO false false (34 :: 41 :: 34 :: t) = _
      simp [sO], fun k t => rfl⟩
  · exact ⟨[92, 92], fun t => by
      show sO false false (92 :: 92 :: t) = _
      simp [sO, Function.comp_def], fun k t => by simp [pL]⟩
  · exact ⟨[], fun t => by
      show sO false false (34 :: 40 :: 92 :: 34 :: 34 :: t) = _
      simp [sO], fun k t => rfl⟩
  · exact ⟨[92, 34, 92, 41], fun t => by
      show sO false false (92 :: 34 :: 92 :: 41 :: t) = _
      simp [sO, Function.comp_def], fun k t => by simp [pL]⟩
theorem sO_rep (a : Nat) (h1 : a ≠ 92) (h2 : a ≠ 34) (t : List Nat) : ∀ n, sO false false (List.replicate n a ++ t) = (sO false false t).map (List.replicate n a ++ ·)
  | 0 => mapid _
  | n + 1 => by
    rw [List.replicate_succ, List.cons_append, sO, if_neg h1, if_neg h2, sO_rep a h1 h2 t n]
    simp [Function.comp_def]
theorem pL_open (t : List Nat) : ∀ (n : Nat) (k : Int), pL false k (List.replicate n 40 ++ t) = pL false (k + n) t
  | 0, k => by simp
  | n + 1, k => by
    rw [List.replicate_succ, List.cons_append, pL, if_neg (by decide), if_pos rfl, pL_open t n]
    congr 1; rw [Int.natCast_succ]; omega
theorem pL_close (t : List Nat) : ∀ (m k : Nat), pL false (k : Int) (List.replicate m 41 ++ t) = if m ≤ k then pL false ((k - m : Nat) : Int) t else none
  | 0, k => by simp
  | m + 1, k => by
    rw [List.replicate_succ, List.cons_append, pL, if_neg (by decide), if_neg (by decide), if_pos rfl]
    cases k with
    | zero => rw [if_pos (by omega), if_neg (by omega)]
    | succ k =>
      rw [if_neg (by omega), show ((k + 1 : Nat) : Int) - 1 = (k : Int) by omega, pL_close t m k]
      by_cases h : m ≤ k
      · rw [if_pos h, if_pos (by omega)]; congr 2; omega
      · rw [if_neg h, if_neg (by omega)]
def runN : Nat → List (Nat × Nat) → Option Nat
  | k, [] => some k
  | k, b :: bs => if b.2 ≤ k + b.1 then runN (k + b.1 - b.2) bs else none
def blockL (b : Int × Nat × Nat) : List Nat := tl (wordS b.1) ++ (List.replicate b.2.1 40 ++ List.replicate b.2.2 41)
theorem blocks_ok : ∀ bs : List (Int × Nat × Nat), ∃ out, (∀ t, sO false false (bs.flatMap blockL ++ t) = (sO false false t).map (out ++ ·)) ∧ ∀ (k : Nat) t, pL false (k : Int) (out ++ t) = (match runN k (bs.map (·.2)) with | none => none | some k' => pL false (k' : Int) t)
  | [] => ⟨[], fun t => mapid _, fun k t => rfl⟩
  | b :: bs => by
    obtain ⟨out, h1, h2⟩ := blocks_ok bs
    obtain ⟨w', g1, g2⟩ := word_ok b.1
    refine ⟨w' ++ (List.replicate b.2.1 40 ++ (List.replicate b.2.2 41 ++ out)), fun t => ?_, fun k t => ?_⟩
    · rw [List.flatMap_cons, blockL, List.append_assoc, List.append_assoc, List.append_assoc, g1, sO_rep 40 (by decide) (by decide), sO_rep 41 (by decide) (by decide), h1]
      simp [Function.comp_def]
    · rw [List.append_assoc, g2, List.append_assoc, pL_open, List.append_assoc]
      have e : (k : Int) + (b.2.1 : Nat) = ((k + b.2.1 : Nat) : Int) := by omega
      rw [e, pL_close, List.map_cons, runN]
      by_cases h : b.2.2 ≤ k + b.2.1
      · rw [if_pos h, if_pos h, h2]
      · rw [if_neg h, if_neg h]
theorem parS_blocks (x : Str) (bs : List (Int × Nat × Nat)) (m : Nat) (hx : tl x = bs.flatMap blockL ++ List.replicate m 41) : parS x = (match runN 0 (bs.map (·.2)) with | none => false | some k => k == m) := by
  obtain ⟨out, h1, h2⟩ := blocks_ok bs
  have e1 : sO false false (List.replicate m 41) = some (List.replicate m 41) := sO_plain _ _ (by intro h; have := List.eq_of_mem_replicate h; omega)
  have e := parS_of x (out ++ List.replicate m 41) (by rw [hx, h1, e1]; rfl)
  rw [e]
  have h3 := h2 0 (List.replicate m 41)
  have h3 : pL false 0 (out ++ List.replicate m 41) = _ := h3
  rw [h3]
  cases runN 0 (bs.map (·.2)) with
  | none => rfl
  | some k =>
    have h4 := pL_close [] m k
    rw [List.append_nil] at h4
    dsimp only
    rw [h4]
    by_cases h : m ≤ k
    · rw [if_pos h, pL]
      dsimp only
      rw [Bool.eq_iff_iff, beq_iff_eq, beq_iff_eq]; omega
    · rw [if_neg h]
      symm
      exact beq_eq_false_iff_ne.mpr (by omega)
theorem runN_sum : ∀ (bs : List (Nat × Nat)) (k k' : Nat), runN k bs = some k' → k' + (bs.map (·.2)).sum = k + (bs.map (·.1)).sum
  | [], k, k', h => by simp [runN] at h; simp [h]
  | b :: bs, k, k', h => by
    rw [runN] at h
    by_cases q : b.2 ≤ k + b.1
    · rw [if_pos q] at h
      have := runN_sum bs _ _ h
      simp only [List.map_cons, List.sum_cons]; omega
    · rw [if_neg q] at h; cases h
theorem tl_field (n : Int) (c r : Nat) : tl (fieldS n (c : Int) (dot r)) = blockL (n, c, r) := by
  unfold fieldS blockL
  rw [tl_append, tl_append, tl_mul1 40 "(" rfl, row_close, tl_mk, Int.toNat_natCast, List.append_assoc]
theorem parS_field (n : Int) (c r : Nat) : parS (fieldS n (c : Int) (dot r)) = (c == r) := by
  rw [parS_blocks _ [(n, c, r)] 0 (by rw [tl_field]; simp)]
  simp only [List.map_cons, List.map_nil, runN, Nat.zero_add]
  by_cases h : r ≤ c
  · rw [if_pos h]
    dsimp only
    rw [Bool.eq_iff_iff, beq_iff_eq, beq_iff_eq]; omega
  · rw [if_neg h]
    symm
    exact beq_eq_false_iff_ne.mpr (by omega)
theorem parS_bad : parS badS = true := by
  rw [parS_of badS (tl badS) (by decide +kernel)]
  decide +kernel
end SC
namespace SC
open PySem PySem.Spec PySem.Calls PyProof.Rows PySem.W
set_option maxRecDepth 100000
def pick1 : Nat → List Nat → List (List Nat)
  | 0, ws => [ws]
  | _ + 1, [] => []
  | k + 1, 0 :: r => (pick1 (k + 1) r).map (0 :: ·)
  | k + 1, (x + 1) :: r => (pick1 k r).map (x :: ·) ++ (pick1 (k + 1) r).map ((x + 1) :: ·)
def netsN : Nat → List Nat → Nat
  | 0, _ => 1
  | _ + 1, [] => 1
  | n + 1, w :: ws => ((pick1 w ws).map (netsN n)).sum
def insD (x : Nat) : List Nat → List Nat
  | [] => [x]
  | y :: r => if y ≤ x then x :: y :: r else y :: insD x r
def sortD : List Nat → List Nat
  | [] => []
  | x :: r => insD x (sortD r)
def colN (cs : List Nat) : List Nat := (List.range cs.length).map fun k => (cs.drop k).sum
def askK (h : List Nat) : List Nat := (List.range 4).filter fun k => decide (k + 1 < h.getD k 0)
def crN (w h : List Nat) : List (Nat × Nat) := (List.range (askK h).length).map fun k => (w.getD (k + 1) 0, h.getD k 0)
def okA (cr : List (Nat × Nat)) : Bool := match runN 0 cr with
  | none => false
  | some k => k % 2 == 0
def toldN (h : List Nat) : List Nat := (List.range 5).map fun i => ((List.range 5).filter fun j => (j != i) && decide (max i j < h.getD (min i j) 0)).length
def chkD (d w h : List Nat) (n : Nat) : Bool :=
  (okA (crN w h) == decide (0 < n)) && ((crN w h).all (fun b => b.1 == b.2) == (n == 1)) && ((toldN h == d) == (n == 1)) && (askK h == List.range (askK h).length) && decide ((askK h).length < w.length) && w.all (fun x => decide (x ≤ 5))
def forceN (x : Nat) (k : Nat → Bool) : Bool := match x with
  | 0 => k 0
  | n + 1 => k (n + 1)
theorem forceN_eq (x : Nat) (k : Nat → Bool) : forceN x k = k x := by cases x <;> rfl
def forceL : List Nat → (List Nat → Bool) → Bool
  | [], k => k []
  | x :: r, k => forceN x fun x' => forceL r fun r' => k (x' :: r')
theorem forceL_eq : ∀ (l : List Nat) (k : List Nat → Bool), forceL l k = k l
  | [], _ => rfl
  | x :: r, k => by rw [forceL, forceN_eq, forceL_eq r]
def chkS (d : List Nat) : Bool := forceL d fun d => forceL (d.map up1) fun h => forceL (colN (tabsN d)) fun w => forceN (netsN 5 d) fun n => chkD d w h n
def chkP (l : List Nat) : Bool := forceL (sortD l) fun d => netsN 5 l == netsN 5 d
def all2 (p : Nat → Nat → Bool) : Bool := (List.range 5).all fun a => (List.range 5).all fun b => p a b
def all3 (p : Nat → Nat → Nat → Bool) : Bool := (List.range 5).all fun a => (List.range 5).all fun b => (List.range 5).all fun c => p a b c
theorem chkS_ok : ((List.range 5).all fun a => (List.range (a + 1)).all fun b => (List.range (b + 1)).all fun c => (List.range (c + 1)).all fun d => (List.range (d + 1)).all fun e => chkS [a, b, c, d, e]) = true := by decide +kernel
def allP (a : Nat) : Bool := all2 fun b c => all2 fun d e => chkP [a, b, c, d, e]
theorem chkP0 : allP 0 = true := by decide +kernel
theorem chkP1 : allP 1 = true := by decide +kernel
theorem chkP2 : allP 2 = true := by decide +kernel
theorem chkP3 : allP 3 = true := by decide +kernel
theorem chkP4 : allP 4 = true := by decide +kernel
theorem all2_at {p : Nat → Nat → Bool} (h : all2 p = true) {a b : Nat} (ha : a < 5) (hb : b < 5) : p a b = true :=
  List.all_eq_true.mp (List.all_eq_true.mp h a (List.mem_range.mpr ha)) b (List.mem_range.mpr hb)
theorem all3_at {p : Nat → Nat → Nat → Bool} (h : all3 p = true) {a b c : Nat} (ha : a < 5) (hb : b < 5) (hc : c < 5) : p a b c = true :=
  List.all_eq_true.mp (List.all_eq_true.mp (List.all_eq_true.mp h a (List.mem_range.mpr ha)) b (List.mem_range.mpr hb)) c (List.mem_range.mpr hc)
theorem chkP_at {a b c d e : Nat} (ha : a < 5) (hb : b < 5) (hc : c < 5) (hd : d < 5) (he : e < 5) : netsN 5 [a, b, c, d, e] = netsN 5 (sortD [a, b, c, d, e]) := by
  have h : allP a = true := by
    have : a = 0 ∨ a = 1 ∨ a = 2 ∨ a = 3 ∨ a = 4 := by omega
    rcases this with rfl | rfl | rfl | rfl | rfl
    · exact chkP0
    · exact chkP1
    · exact chkP2
    · exact chkP3
    · exact chkP4
  have := all2_at (all2_at h hb hc) hd he
  unfold chkP at this
  rw [forceL_eq] at this
  simpa using this
theorem tab_step (f : Nat → Nat) (m b : Nat) (hf : ∀ x, m ≤ x → f x = 0) : tabN b ((List.range m).map f) = (List.range (max m (b + 1))).map fun x => f x + if x = b then 1 else 0 := by
  have e : (if ((List.range m).map f).length ≤ b then (List.range m).map f ++ List.replicate (b - ((List.range m).map f).length + 1) 0 else (List.range m).map f) = (List.range (max m (b + 1))).map f := by
    rw [List.length_map, List.length_range]
    by_cases h : m ≤ b
    · rw [if_pos h, Nat.max_eq_right (by omega)]
      refine List.ext_getElem? fun i => ?_
      by_cases hi : i < m
      · rw [List.getElem?_append_left (by simpa using hi), List.getElem?_map, List.getElem?_map, List.getElem?_range hi, List.getElem?_range (by omega)]
      · rw [List.getElem?_append_right (by simpa using Nat.le_of_not_lt hi), List.length_map, List.length_range, List.getElem?_map, List.getElem?_replicate]
        by_cases h2 : i < b + 1
        · rw [if_pos (by omega), List.getElem?_range h2, Option.map_some, hf i (by omega)]
        · rw [if_neg (by omega), List.getElem?_eq_none (by simpa using h2)]; rfl
    · rw [if_neg h, Nat.max_eq_left (by omega)]
  unfold tabN
  rw [e]
  have hb : b < max m (b + 1) := by omega
  have hg : ((List.range (max m (b + 1))).map f).getD b 0 = f b := by
    rw [List.getD_eq_getElem?_getD, List.getElem?_map, List.getElem?_range hb]; rfl
  rw [hg]
  refine List.ext_getElem? fun i => ?_
  rw [List.getElem?_set, List.length_map, List.length_range]
  by_cases h : b = i
  · subst h
    rw [if_pos rfl, if_pos hb, List.getElem?_map, List.getElem?_range hb, Option.map_some, if_pos rfl]
  · rw [if_neg h, List.getElem?_map, List.getElem?_map]
    by_cases h2 : i < max m (b + 1)
    · rw [List.getElem?_range h2, Option.map_some, Option.map_some, if_neg (Ne.symm h), Nat.add_zero]
    · rw [List.getElem?_eq_none (by simpa using h2)]; rfl
theorem tab_run : ∀ (l : List Nat) (f : Nat → Nat) (m : Nat), (∀ x, m ≤ x → f x = 0) → l.foldl (fun c n => tabN n c) ((List.range m).map f) = (List.range (l.foldl (fun m n => max m (n + 1)) m)).map fun x => f x + l.count x
  | [], f, m, _ => by simp
  | b :: l, f, m, hf => by
    rw [List.foldl_cons, tab_step f m b hf, tab_run l _ _ (fun x hx => by rw [hf x (by omega), if_neg (by omega)]), List.foldl_cons]
    refine List.map_congr_left fun x _ => ?_
    rw [List.count_cons]
    by_cases h : x = b
    · subst h; simp; omega
    · have h2 : ¬ b = x := fun q => h q.symm
      simp [h, h2]
theorem max_run (a : Nat) : ∀ (l : List Nat) (m : Nat), (∀ n ∈ l, n ≤ a) → m ≤ a + 1 → (a ∈ l ∨ m = a + 1) → l.foldl (fun m n => max m (n + 1)) m = a + 1
  | [], m, _, _, h => by
    rcases h with h | h
    · cases h
    · exact h
  | b :: l, m, hl, hm, h => by
    have hb := hl b (List.mem_cons_self ..)
    rw [List.foldl_cons]
    refine max_run a l _ (fun n hn => hl n (List.mem_cons_of_mem _ hn)) (by omega) ?_
    rcases h with h | h
    · rcases List.mem_cons.mp h with rfl | h
      · exact .inr (by omega)
      · exact .inl h
    · exact .inr (by omega)
theorem tabs_count (l : List Nat) (a : Nat) (ha : a ∈ l) (hm : ∀ n ∈ l, n ≤ a) : tabsN l = (List.range (a + 1)).map fun x => l.count x := by
  have h := tab_run l (fun _ => 0) 0 (fun _ _ => rfl)
  have h' : tabsN l = _ := h
  rw [h', max_run a l 0 hm (by omega) (.inl ha)]
  refine List.map_congr_left fun x _ => ?_
  exact Nat.zero_add _
theorem chkS_at {a b c d e : Nat} (ha : a < 5) (hb : b ≤ a) (hc : c ≤ b) (hd : d ≤ c) (he : e ≤ d) : chkD [a, b, c, d, e] (colN (tabsN [a, b, c, d, e])) ([a, b, c, d, e].map up1) (netsN 5 [a, b, c, d, e]) = true := by
  have h1 := List.all_eq_true.mp chkS_ok a (List.mem_range.mpr ha)
  have h2 := List.all_eq_true.mp h1 b (List.mem_range.mpr (by omega))
  have h3 := List.all_eq_true.mp h2 c (List.mem_range.mpr (by omega))
  have h4 := List.all_eq_true.mp h3 d (List.mem_range.mpr (by omega))
  have h5 := List.all_eq_true.mp h4 e (List.mem_range.mpr (by omega))
  unfold chkS at h5
  rw [forceL_eq, forceL_eq, forceL_eq, forceN_eq] at h5
  exact h5
end SC
namespace SC
open PySem PySem.Spec PySem.Calls PyProof.Rows PySem.W
set_option maxRecDepth 100000
def leftB : List Int → Nat → List Int
  | [], _ => []
  | x :: r, c => (x - ((c % 2 : Nat) : Int)) :: leftB r (c / 2)
theorem bit_eq (c k : Nat) : ((c : Int).fdiv ((2 ^ k : Nat) : Int)).fmod 2 = ((c / 2 ^ k % 2 : Nat) : Int) := by
  rw [Int.fdiv_eq_ediv_of_nonneg _ (Int.natCast_nonneg _), Int.fmod_eq_emod_of_nonneg _ (by decide)]
  rfl
theorem leftL_eq (w0 : Int) : ∀ (ws : List Int) (c : Nat), leftL (w0 :: ws) c = leftB ws c := by
  have key : ∀ (ws : List Int) (c : Nat), ((List.range ws.length).map fun k : Nat => ws.getD k 0 - ((c : Int).fdiv ((2 ^ k : Nat) : Int)).fmod 2) = leftB ws c := by
    intro ws
    induction ws with
    | nil => intro c; rfl
    | cons x r ih =>
      intro c
      rw [List.length_cons, List.range_succ_eq_map, List.map_cons, List.map_map, leftB, ← ih (c / 2)]
      congr 1
      · rw [bit_eq]; simp
      · refine List.map_congr_left fun k _ => ?_
        simp only [Function.comp]
        rw [bit_eq, bit_eq, Nat.div_div_eq_div_mul, Nat.pow_succ, Nat.mul_comm 2]
        rfl
  intro ws c
  exact key ws c
theorem foldl_ite {α : Type} (p : α → Bool) (f : α → Int) : ∀ (l : List α) (a : Int), l.foldl (fun acc c => if p c then acc + f c else acc) a = a + (l.map fun c => if p c then f c else 0).sum
  | [], a => by simp
  | x :: r, a => by
    rw [List.foldl_cons, foldl_ite p f r, List.map_cons, List.sum_cons]
    split <;> omega
theorem sum_double (g : Nat → Int) : ∀ N : Nat, ((List.range (2 * N)).map g).sum = ((List.range N).map fun c => g (2 * c) + g (2 * c + 1)).sum
  | 0 => rfl
  | N + 1 => by
    have e : 2 * (N + 1) = 2 * N + 1 + 1 := by omega
    rw [e, List.range_succ, List.range_succ, List.range_succ, List.map_append, List.map_append, List.sum_append, List.sum_append, sum_double g N, List.map_append, List.sum_append]
    simp; omega
theorem sum_add (f g : Nat → Int) : ∀ l : List Nat, (l.map fun c => f c + g c).sum = (l.map f).sum + (l.map g).sum
  | [] => rfl
  | x :: r => by
    have := sum_add f g r
    simp only [List.map_cons, List.sum_cons]; omega
theorem leftB_le : ∀ (ws : List Int) (c : Nat), (leftB ws c).sum ≤ ws.sum
  | [], c => by simp [leftB]
  | x :: r, c => by
    have := leftB_le r (c / 2)
    rw [leftB]
    simp only [List.sum_cons]; omega
def okB (ws : List Int) (k : Nat) (c : Nat) : Bool := (ws.sum - (leftB ws c).sum == (k : Int)) && (leftB ws c).all fun a => decide (0 ≤ a)
theorem sum_zero (f : Nat → Int) (l : List Nat) (h : ∀ c ∈ l, f c = 0) : (l.map f).sum = 0 := by
  induction l with
  | nil => rfl
  | cons x r ih => rw [List.map_cons, List.sum_cons, h x (List.mem_cons_self ..), ih fun c hc => h c (List.mem_cons_of_mem _ hc)]; rfl
theorem okB_even (x : Nat) (r : List Int) (k c : Nat) : okB ((x : Int) :: r) k (2 * c) = okB r k c := by
  unfold okB
  have e1 : 2 * c % 2 = 0 := by omega
  have e2 : 2 * c / 2 = c := by omega
  rw [leftB, e1, e2, List.all_cons, List.sum_cons, List.sum_cons]
  have h1 : decide ((0 : Int) ≤ (x : Int) - ((0 : Nat) : Int)) = true := decide_eq_true (by omega)
  rw [h1, Bool.true_and]
  congr 1
  rw [Bool.eq_iff_iff, beq_iff_eq, beq_iff_eq]; omega
theorem okB_odd (x : Nat) (r : List Int) (k c : Nat) : okB (((x + 1 : Nat) : Int) :: r) (k + 1) (2 * c + 1) = okB r k c := by
  unfold okB
  have e1 : (2 * c + 1) % 2 = 1 := by omega
  have e2 : (2 * c + 1) / 2 = c := by omega
  rw [leftB, e1, e2, List.all_cons, List.sum_cons, List.sum_cons]
  have h1 : decide ((0 : Int) ≤ ((x + 1 : Nat) : Int) - ((1 : Nat) : Int)) = true := decide_eq_true (by omega)
  rw [h1, Bool.true_and]
  congr 1
  rw [Bool.eq_iff_iff, beq_iff_eq, beq_iff_eq]; omega
theorem okB_odd0 (r : List Int) (k c : Nat) : okB (((0 : Nat) : Int) :: r) k (2 * c + 1) = false := by
  unfold okB
  have e1 : (2 * c + 1) % 2 = 1 := by omega
  rw [leftB, e1, List.all_cons]
  have h1 : decide ((0 : Int) ≤ ((0 : Nat) : Int) - ((1 : Nat) : Int)) = false := by decide
  rw [h1, Bool.false_and, Bool.and_false]
theorem okB_oddk (x : Int) (r : List Int) (c : Nat) : okB (x :: r) 0 (2 * c + 1) = false := by
  unfold okB
  have e1 : (2 * c + 1) % 2 = 1 := by omega
  have h := leftB_le r ((2 * c + 1) / 2)
  rw [leftB, e1, List.sum_cons, List.sum_cons]
  have h1 : (x + r.sum - (x - ((1 : Nat) : Int) + (leftB r ((2 * c + 1) / 2)).sum) == ((0 : Nat) : Int)) = false := beq_eq_false_iff_ne.mpr (by omega)
  rw [h1, Bool.false_and]
theorem leftB_even (x : Int) (r : List Int) (c : Nat) : leftB (x :: r) (2 * c) = x :: leftB r c := by
  have e1 : 2 * c % 2 = 0 := by omega
  have e2 : 2 * c / 2 = c := by omega
  rw [leftB, e1, e2]; congr 1; omega
theorem leftB_odd (x : Nat) (r : List Int) (c : Nat) : leftB (((x + 1 : Nat) : Int) :: r) (2 * c + 1) = (x : Int) :: leftB r c := by
  have e1 : (2 * c + 1) % 2 = 1 := by omega
  have e2 : (2 * c + 1) / 2 = c := by omega
  rw [leftB, e1, e2]; congr 1; omega
theorem pick1_zero (r : List Nat) : pick1 0 r = [r] := by cases r <;> rfl
theorem pick_sum : ∀ (ws : List Nat) (k : Nat) (g : List Int → Int), ((List.range (2 ^ ws.length)).map fun c => if okB (ci ws) k c then g (leftB (ci ws) c) else 0).sum = ((pick1 k ws).map fun l => g (ci l)).sum := by
  intro ws
  induction ws with
  | nil =>
    intro k g
    cases k with
    | zero =>
      show ([(if okB [] 0 0 then g [] else 0)] : List Int).sum = ([g []] : List Int).sum
      rw [if_pos (by decide)]
    | succ k =>
      show ([(if okB [] (k + 1) 0 then g [] else 0)] : List Int).sum = 0
      have : okB [] (k + 1) 0 = false := by
        unfold okB
        have : (([] : List Int).sum - (leftB [] 0).sum == ((k + 1 : Nat) : Int)) = false := beq_eq_false_iff_ne.mpr (by simp [leftB]; omega)
        rw [this]; rfl
      rw [this]; rfl
  | cons x r ih =>
    intro k g
    have e : 2 ^ (x :: r).length = 2 * 2 ^ r.length := by rw [List.length_cons, Nat.pow_succ, Nat.mul_comm]
    have ex : ci (x :: r) = (x : Int) :: ci r := rfl
    rw [e, sum_double, sum_add, ex]
    have eA : ((List.range (2 ^ r.length)).map fun c => if okB ((x : Int) :: ci r) k (2 * c) then g (leftB ((x : Int) :: ci r) (2 * c)) else 0).sum = ((pick1 k r).map fun l => g ((x : Int) :: ci l)).sum := by
      rw [← ih k fun l => g ((x : Int) :: l)]
      congr 1
      refine List.map_congr_left fun c _ => ?_
      rw [okB_even, leftB_even]
    rw [eA]
    cases k with
    | zero =>
      rw [sum_zero _ _ fun c _ => by rw [okB_oddk]; rfl]
      rw [Int.add_zero, pick1_zero, pick1_zero]; rfl
    | succ k =>
      cases x with
      | zero =>
        rw [sum_zero _ _ fun c _ => by rw [okB_odd0]; rfl, Int.add_zero, pick1, List.map_map]
        rfl
      | succ x =>
        have eB : ((List.range (2 ^ r.length)).map fun c => if okB (((x + 1 : Nat) : Int) :: ci r) (k + 1) (2 * c + 1) then g (leftB (((x + 1 : Nat) : Int) :: ci r) (2 * c + 1)) else 0).sum = ((pick1 k r).map fun l => g ((x : Int) :: ci l)).sum := by
          rw [← ih k fun l => g ((x : Int) :: l)]
          congr 1
          refine List.map_congr_left fun c _ => ?_
          rw [okB_odd, leftB_odd]
        rw [eB, pick1, List.map_append, List.sum_append, List.map_map, List.map_map, Int.add_comm]
        rfl
theorem pick_len : ∀ (ws : List Nat) (k : Nat), ∀ l ∈ pick1 k ws, l.length = ws.length := by
  intro ws
  induction ws with
  | nil => intro k l hl; cases k <;> simp [pick1] at hl; rw [hl]
  | cons x r ih =>
    intro k l hl
    cases k with
    | zero => simp [pick1] at hl; rw [hl]
    | succ k =>
      cases x with
      | zero =>
        rw [pick1] at hl
        obtain ⟨l', h1, rfl⟩ := List.mem_map.mp hl
        rw [List.length_cons, List.length_cons, ih _ l' h1]
      | succ x =>
        rw [pick1] at hl
        rcases List.mem_append.mp hl with h | h
        · obtain ⟨l', h1, rfl⟩ := List.mem_map.mp h
          rw [List.length_cons, List.length_cons, ih _ l' h1]
        · obtain ⟨l', h1, rfl⟩ := List.mem_map.mp h
          rw [List.length_cons, List.length_cons, ih _ l' h1]
theorem sum_ci : ∀ l : List Nat, (ci l).sum = ((l.sum : Nat) : Int)
  | [] => rfl
  | x :: r => by
    have := sum_ci r
    simp only [ci, List.map_cons, List.sum_cons] at *; omega
theorem nets_eq : ∀ (n : Nat) (l : List Nat), l.length = n → nets n (ci l) = ((netsN n l : Nat) : Int)
  | 0, l, _ => rfl
  | n + 1, l, h => by
    cases l with
    | nil => cases h
    | cons w ws =>
      have hl : ws.length = n := by simpa using h
      rw [nets, foldl_ite, Int.zero_add]
      have e : ((List.range (2 ^ n)).map fun c => if netsC (ci (w :: ws)) (leftL (ci (w :: ws)) c) then nets n (leftL (ci (w :: ws)) c) else 0) = (List.range (2 ^ ws.length)).map fun c => if okB (ci ws) w c then nets n (leftB (ci ws) c) else 0 := by
        rw [hl]
        refine List.map_congr_left fun c _ => ?_
        have e1 : ci (w :: ws) = (w : Int) :: ci ws := rfl
        rw [e1, leftL_eq]
        have e2 : netsC ((w : Int) :: ci ws) (leftB (ci ws) c) = okB (ci ws) w c := by
          unfold netsC okB
          congr 1
          rw [List.sum_cons, Bool.eq_iff_iff, beq_iff_eq, beq_iff_eq]
          show _ = 2 * (w : Int) ↔ _
          omega
        rw [e2]
      rw [e, pick_sum ws w (nets n)]
      show _ = ((((pick1 w ws).map (netsN n)).sum : Nat) : Int)
      rw [← sum_ci, ci, List.map_map]
      congr 1
      refine List.map_congr_left fun l' h' => ?_
      exact nets_eq n l' ((pick_len ws w l' h').trans hl)
end SC
namespace SC
open PySem PySem.Spec PySem.Calls PyProof.Rows PySem.W Builtin Builtin.Str StrLaws
set_option maxRecDepth 100000
theorem pickG_nat {α : Type} (xs : List α) {a b : Nat} (hab : a ≤ b) (hb : b ≤ xs.length) : (sliceRange (a : Int) (b : Int) 1).filterMap (xs[·]?) = (xs.drop a).take (b - a) := by
  rw [sliceRange_one]
  exact picks xs (b - a) a (by omega)
theorem pickG_take {α : Type} (xs : List α) (k : Nat) : pickG xs none (some (k : Int)) none = xs.take k := by
  unfold pickG
  have e : sliceBounds none (some (k : Int)) none xs.length = (((0 : Nat) : Int), ((min k xs.length : Nat) : Int), 1) := by
    unfold sliceBounds
    have h1 : ¬ ((k : Int) < 0) := by omega
    simp [h1]
    omega
  rw [e]
  dsimp only
  rw [pickG_nat xs (Nat.zero_le _) (Nat.min_le_right _ _), List.drop_zero, Nat.sub_zero]
  by_cases h : k ≤ xs.length
  · rw [Nat.min_eq_left h]
  · rw [Nat.min_eq_right (by omega), List.take_of_length_le (Nat.le_refl _), List.take_of_length_le (by omega)]
theorem pickG_from1 {α : Type} (xs : List α) (n : Nat) (h : n + 1 ≤ xs.length) : pickG xs (some 1) (some ((n : Int) + 1)) none = (xs.drop 1).take n := by
  unfold pickG
  have e : sliceBounds (some 1) (some ((n : Int) + 1)) none xs.length = (((1 : Nat) : Int), ((n + 1 : Nat) : Int), 1) := by
    unfold sliceBounds
    have h1 : ¬ ((n : Int) + 1 < 0) := by omega
    simp [h1]
    omega
  rw [e]
  dsimp only
  rw [pickG_nat xs (by omega) h, Nat.add_sub_cancel]
theorem take_range {α : Type} (d : α) : ∀ (n : Nat) (xs : List α), n ≤ xs.length → xs.take n = (List.range n).map fun k => xs.getD k d
  | 0, _, _ => by simp
  | n + 1, xs, h => by
    rw [List.range_succ, List.map_append, ← take_range d n xs (by omega), List.take_add_one]
    congr 1
    rw [List.getElem?_eq_getElem (by omega), List.map_cons, List.map_nil, List.getD_eq_getElem?_getD, List.getElem?_eq_getElem (by omega)]; rfl
theorem drop1_range {α : Type} (d : α) (n : Nat) (xs : List α) (h : n + 1 ≤ xs.length) : (xs.drop 1).take n = (List.range n).map fun k => xs.getD (k + 1) d := by
  rw [take_range d n (xs.drop 1) (by rw [List.length_drop]; omega)]
  refine List.map_congr_left fun k _ => ?_
  rw [List.getD_eq_getElem?_getD, List.getD_eq_getElem?_getD, List.getElem?_drop, Nat.add_comm]
theorem drawn5 (s : List Int) : ∃ a b c d e, drawnL s = [a, b, c, d, e] := by
  have h : (drawnL s).length = 5 := by
    unfold drawnL
    have e1 := pickG_take s 5
    have e2 := pickG_take (s.take 5 ++ [67, 15, 13, 1, 12]) 5
    have e1' : pickG s none (some 5) none = s.take 5 := e1
    rw [e1']
    have e2' : pickG (s.take 5 ++ [67, 15, 13, 1, 12]) none (some 5) none = _ := e2
    rw [e2', List.length_take, List.length_append]
    simp
  match drawnL s, h with
  | [a, b, c, d, e], _ => exact ⟨a, b, c, d, e, rfl⟩
theorem insD_perm (x : Nat) : ∀ l, (insD x l).Perm (x :: l)
  | [] => .refl _
  | y :: r => by
    rw [insD]
    split
    · exact .refl _
    · exact ((insD_perm x r).cons y).trans (.swap x y r)
theorem sortD_perm : ∀ l, (sortD l).Perm l
  | [] => .refl _
  | x :: r => (insD_perm x _).trans ((sortD_perm r).cons x)
theorem insD_sorted (x : Nat) : ∀ l, l.Pairwise (· ≥ ·) → (insD x l).Pairwise (· ≥ ·)
  | [], _ => by simp [insD]
  | y :: r, h => by
    rw [insD]
    obtain ⟨h1, h2⟩ := List.pairwise_cons.mp h
    split
    · rename_i q
      refine List.pairwise_cons.mpr ⟨fun z hz => ?_, h⟩
      rcases List.mem_cons.mp hz with rfl | hz
      · exact q
      · have := h1 z hz; show z ≤ x; have : z ≤ y := this; omega
    · rename_i q
      refine List.pairwise_cons.mpr ⟨fun z hz => ?_, insD_sorted x r h2⟩
      rcases List.mem_cons.mp ((insD_perm x r).subset hz) with rfl | hz
      · show z ≤ y; omega
      · exact h1 z hz
theorem sortD_sorted : ∀ l, (sortD l).Pairwise (· ≥ ·)
  | [] => .nil
  | x :: r => insD_sorted x _ (sortD_sorted r)
theorem sorted5 (l : List Nat) (hl : l.length = 5) (h5 : ∀ x ∈ l, x < 5) : ∃ a b c d e, sortD l = [a, b, c, d, e] ∧ a < 5 ∧ b ≤ a ∧ c ≤ b ∧ d ≤ c ∧ e ≤ d := by
  have hp := sortD_perm l
  have hs := sortD_sorted l
  have hlen := hp.length_eq
  rw [hl] at hlen
  have hm : ∀ x ∈ sortD l, x < 5 := fun x hx => h5 x (hp.subset hx)
  revert hs hlen hm
  generalize sortD l = t
  intro hs hlen hm
  match t, hlen with
  | [a, b, c, d, e], _ =>
    refine ⟨a, b, c, d, e, rfl, hm a (by simp), ?_, ?_, ?_, ?_⟩
    · exact (List.pairwise_cons.mp hs).1 b (by simp)
    · exact (List.pairwise_cons.mp (List.pairwise_cons.mp hs).2).1 c (by simp)
    · exact (List.pairwise_cons.mp (List.pairwise_cons.mp (List.pairwise_cons.mp hs).2).2).1 d (by simp)
    · exact (List.pairwise_cons.mp (List.pairwise_cons.mp (List.pairwise_cons.mp (List.pairwise_cons.mp hs).2).2).2).1 e (by simp)
theorem lt_dots : ∀ (m n : Nat), ltCps (List.replicate m 46) (List.replicate n 46) = decide (m < n)
  | 0, 0 => rfl
  | 0, n + 1 => rfl
  | m + 1, 0 => rfl
  | m + 1, n + 1 => by
    rw [List.replicate_succ, List.replicate_succ, ltCps, lt_dots m n]
    simp
theorem rising_len : ∀ (r : List Str) (p : Str), (∃ n, p = dot n) → (∀ x ∈ r, ∃ n, x = dot n) → risingS p r = true → (p :: r).Pairwise fun a b => a.length ≤ b.length
  | [], p, _, _, _ => by simp
  | x :: r, p, hp, hx, h => by
    rw [risingS, Bool.and_eq_true] at h
    obtain ⟨n, rfl⟩ := hp
    obtain ⟨m, rfl⟩ := hx x (.head _)
    have ih := rising_len r (dot m) ⟨m, rfl⟩ (fun y hy => hx y (.tail _ hy)) h.2
    have h0 := h.1
    rw [Bool.not_eq_true'] at h0
    have h1 : ltCps (List.replicate m 46) (List.replicate n 46) = false := h0
    rw [lt_dots] at h1
    have h1 : n ≤ m := by have := of_decide_eq_false h1; omega
    refine List.pairwise_cons.mpr ⟨fun y hy => ?_, ih⟩
    rw [dot_len]
    rcases List.mem_cons.mp hy with rfl | hy
    · rw [dot_len]; exact h1
    · have := (List.pairwise_cons.mp ih).1 y hy
      rw [dot_len] at this; omega
theorem sorted_dots (L : List Nat) (hs : L.Pairwise (· ≤ ·)) (sp : List Str) (hp : sp.Perm (L.map dot)) (ms : List Str) (hm : ms.Perm sp) (h : sortedS ms = true) : ms = L.map dot := by
  have hd : ∀ x ∈ ms, ∃ n, x = dot n := fun x hx => by
    obtain ⟨n, _, e⟩ := List.mem_map.mp ((hm.trans hp).subset hx)
    exact ⟨n, e.symm⟩
  have h1 : ms.Pairwise fun a b => a.length ≤ b.length := by
    cases ms with
    | nil => exact .nil
    | cons x r => exact rising_len r x (hd x (.head _)) (fun y hy => hd y (.tail _ hy)) h
  have h2 : (L.map dot).Pairwise fun a b => a.length ≤ b.length := by
    rw [List.pairwise_map]
    exact hs.imp fun {a b} q => by rw [dot_len, dot_len]; exact q
  refine List.Perm.eq_of_pairwise (le := fun a b => a.length ≤ b.length) (fun a b ha hb q1 q2 => ?_) h1 h2 (hm.trans hp)
  obtain ⟨n, rfl⟩ := hd a ha
  obtain ⟨m, _, rfl⟩ := List.mem_map.mp hb
  rw [dot_len, dot_len] at q1 q2
  rw [show n = m by omega]
theorem count_ci (l : List Nat) (x : Nat) : (ci l).count (x : Int) = l.count x := by
  induction l with
  | nil => rfl
  | cons y r ih =>
    show ((y : Int) :: ci r).count (x : Int) = _
    rw [List.count_cons, List.count_cons, ih]
    congr 1
    by_cases h : y = x
    · subst h; simp
    · have : ¬ (y : Int) = (x : Int) := by omega
      simp [h, this]
theorem colL_ci (t : List Nat) : colL (ci t) = ci (colN t) := by
  unfold colL colN
  rw [List.length_map]
  show _ = List.map (fun n : Nat => (n : Int)) _
  rw [List.map_map]
  refine List.map_congr_left fun k _ => ?_
  show ((ci t).drop k).sum = (((t.drop k).sum : Nat) : Int)
  rw [← sum_ci, ci, ci, List.map_drop]
theorem dots_getD (h : List Nat) (k : Nat) : (h.map dot).getD k "" = dot (h.getD k 0) := by
  rw [List.getD_eq_getElem?_getD, List.getD_eq_getElem?_getD, List.getElem?_map]
  cases h[k]? <;> rfl
theorem told_ci (h : List Nat) : toldL (h.map dot) = ci (toldN h) := by
  unfold toldL toldN
  rw [ci, List.map_map]
  refine List.map_congr_left fun i _ => ?_
  show ((((List.range 5).filter (toldP (h.map dot) i)).length : Nat) : Int) = _
  have e : toldP (h.map dot) i = fun j => (j != i) && decide (max i j < h.getD (min i j) 0) := by
    funext j
    unfold toldP
    rw [dots_getD, dot_len]
  rw [e]; rfl
theorem foldl_filter {α β : Type} (p : α → Prop) [DecidablePred p] (f : α → β) : ∀ (l : List α) (b : List β), l.foldl (fun b k => if p k then b ++ [f k] else b) b = b ++ (l.filter fun k => decide (p k)).map f
  | [], b => by simp
  | x :: r, b => by
    rw [List.foldl_cons, foldl_filter p f r, List.filter_cons]
    by_cases h : p x
    · simp [h]
    · simp [h]
def fldN (d : List Int) (w h : List Nat) (k : Nat) : Str := fieldS (d.getD k 0) ((w.getD (k + 1) 0 : Nat) : Int) (dot (h.getD k 0))
theorem fields_eq (d : List Int) (w h : List Nat) : fieldsL d (ci w) (h.map dot) = (askK h).map (fldN d w h) := by
  unfold fieldsL
  have e : fieldStep d (ci w) (h.map dot) = fun b k => if k + 1 < h.getD k 0 then b ++ [fldN d w h k] else b := by
    funext b k
    unfold fieldStep fldN
    rw [dots_getD, dot_len, ci_getD]
    by_cases q : k + 1 < h.getD k 0
    · rw [if_pos (by omega), if_pos q]
    · rw [if_neg (by omega), if_neg q]
  rw [e, foldl_filter (fun k => k + 1 < h.getD k 0) (fldN d w h)]
  rfl
end SC
namespace SC
open PySem PySem.Spec PySem.Calls PyProof.Rows PySem.W Builtin Builtin.Str StrLaws
set_option maxRecDepth 100000
structure Num (l δ h w : List Nat) (K : Nat) : Prop where
  five : ∃ a b c d e, δ = [a, b, c, d, e] ∧ a < 5 ∧ b ≤ a ∧ c ≤ b ∧ d ≤ c ∧ e ≤ d
  perm : δ.Perm l
  sort : δ.Pairwise (· ≥ ·)
  hh : h = δ.map up1
  hw : w = colN (tabsN l)
  tab : tabsN l = (List.range (δ.headD 0 + 1)).map fun x => l.count x
  ask : askK h = List.range K
  Kw : K < w.length
  w5 : ∀ x ∈ w, x ≤ 5
  A : okA (crN w h) = decide (0 < netsN 5 l)
  U : (crN w h).all (fun b => b.1 == b.2) = (netsN 5 l == 1)
  T : (toldN h == δ) = (netsN 5 l == 1)
theorem num_of (l : List Nat) (hl : l.length = 5) (h5 : ∀ x ∈ l, x < 5) : ∃ δ h w K, δ = sortD l ∧ Num l δ h w K := by
  obtain ⟨a, b, c, d, e, hs, h1, h2, h3, h4, h6⟩ := sorted5 l hl h5
  have hp := sortD_perm l
  have hss := sortD_sorted l
  obtain ⟨n0, n1, n2, n3, n4, rfl⟩ : ∃ n0 n1 n2 n3 n4, l = [n0, n1, n2, n3, n4] := by
    match l, hl with
    | [n0, n1, n2, n3, n4], _ => exact ⟨_, _, _, _, _, rfl⟩
  have q0 : n0 < 5 := h5 _ (by simp)
  have q1 : n1 < 5 := h5 _ (by simp)
  have q2 : n2 < 5 := h5 _ (by simp)
  have q3 : n3 < 5 := h5 _ (by simp)
  have q4 : n4 < 5 := h5 _ (by simp)
  have hn := chkP_at q0 q1 q2 q3 q4
  have hmx : ∀ n ∈ [n0, n1, n2, n3, n4], n ≤ a := fun n hn => by
    have q := hp.symm.subset hn
    rw [hs] at q
    simp at q; omega
  have ht := tabs_count [n0, n1, n2, n3, n4] a (hp.subset (by rw [hs]; simp)) hmx
  have ht2 := tabs_count [a, b, c, d, e] a (by simp) (fun n hn => by simp at hn; omega)
  have hc := chkS_at h1 h2 h3 h4 h6
  rw [hs] at hp hss hn
  have et : tabsN [a, b, c, d, e] = tabsN [n0, n1, n2, n3, n4] := by
    rw [ht, ht2]
    refine List.map_congr_left fun x _ => ?_
    exact hp.count_eq x
  rw [et, ← hn] at hc
  unfold chkD at hc
  simp only [Bool.and_eq_true, beq_iff_eq, decide_eq_true_eq, List.all_eq_true] at hc
  obtain ⟨⟨⟨⟨⟨c1, c2⟩, c3⟩, c4⟩, c5⟩, c6⟩ := hc
  refine ⟨_, _, _, _, hs.symm, ⟨⟨a, b, c, d, e, rfl, h1, h2, h3, h4, h6⟩, hp, hss, rfl, rfl, ht, c4, c5, c6, c1, ?_, c3⟩⟩
  exact c2
theorem rowsN_len (B : Nat) : ∀ l : List Nat, (∀ n ∈ l, n ≤ B) → (rowsN l).length ≤ l.length * (B + 2)
  | [], _ => Nat.zero_le _
  | n :: l, h => by
    have ih := rowsN_len B l fun x hx => h x (.tail _ hx)
    have h1 := h n (.head _)
    have e : (rowsN (n :: l)).length = n + 2 + (rowsN l).length := by simp [rowsN]; omega
    rw [e, List.length_cons, Nat.add_mul]; omega
theorem mail_len : ∀ d : List Int, (d.flatMap rowE).length ≤ d.length * 6
  | [] => Nat.zero_le _
  | x :: d => by
    have ih := mail_len d
    have e1 := endS_len x
    rw [tl_len] at e1
    obtain ⟨h2, h3⟩ := fmod_range x 5 (by omega)
    rw [List.flatMap_cons, List.length_append, rowE, List.length_append, List.length_replicate, List.length_cons, Nat.add_mul]; omega
theorem strOk_of {x : Str} (h : ∀ c ∈ tl x, c < 1114112) : PyData.strOk x = true := by
  unfold PyData.strOk
  rw [← Array.all_toList]
  exact List.all_eq_true.mpr fun c hc => decide_eq_true (h c hc)
theorem word_small (n : Int) : ∀ c ∈ tl (wordS n), c < 1114112 := by
  unfold wordS
  obtain ⟨h0, h1⟩ := fmod_range (n.fdiv 15) 6 (by omega)
  generalize (n.fdiv 15).fmod 6 = z at *
  have : z = 0 ∨ z = 1 ∨ z = 2 ∨ z = 3 ∨ z = 4 ∨ z = 5 := by omega
  rcases this with rfl | rfl | rfl | rfl | rfl | rfl <;> decide +kernel
theorem fld_ok (d : List Int) (w h : List Nat) (k : Nat) : PyData.strOk (fldN d w h k) = true := by
  refine strOk_of fun c hc => ?_
  unfold fldN at hc
  rw [tl_field, blockL] at hc
  rcases List.mem_append.mp hc with q | q
  · exact word_small _ c q
  · rcases List.mem_append.mp q with q | q
    · rw [List.eq_of_mem_replicate q]; decide
    · rw [List.eq_of_mem_replicate q]; decide
theorem rows_small (l : List Nat) : ∀ c ∈ rowsN l, c < 1114112 := by
  intro c hc
  obtain ⟨n, _, q⟩ := List.mem_flatMap.mp hc
  rcases List.mem_append.mp q with q | q
  · rw [List.eq_of_mem_replicate q]; decide
  · simp at q; omega
theorem bad_ok : PyData.strOk badS = true := by decide +kernel
theorem fld_len (d : List Int) (w h : List Nat) (k B : Nat) (hw : ∀ x ∈ w, x ≤ B) (hh : ∀ x ∈ h, x ≤ B) : (fldN d w h k).length ≤ 6 + 2 * B := by
  have h1 : w.getD (k + 1) 0 ≤ B := by
    rw [List.getD_eq_getElem?_getD]
    cases q : w[k + 1]? with
    | none => exact Nat.zero_le _
    | some x => exact hw x (List.mem_of_getElem? q)
  have h2 : h.getD k 0 ≤ B := by
    rw [List.getD_eq_getElem?_getD]
    cases q : h[k]? with
    | none => exact Nat.zero_le _
    | some x => exact hh x (List.mem_of_getElem? q)
  have h3 := wordS_len (d.getD k 0)
  rw [tl_len] at h3
  rw [tl_len]
  unfold fldN
  rw [tl_field, blockL, List.length_append, List.length_append, List.length_replicate, List.length_replicate]
  dsimp only
  omega
def keptN (d : List Int) (w h : List Nat) (K : Nat) : List Str := (List.range K).map fun k => if w.getD (k + 1) 0 = h.getD k 0 then fldN d w h k else badS
theorem pre_kept (d : List Int) (w h : List Nat) (K : Nat) : ((List.range K).map (fldN d w h)).map preV = keptN d w h K := by
  unfold keptN
  rw [List.map_map]
  refine List.map_congr_left fun k _ => ?_
  show preV (fldN d w h k) = _
  unfold preV fldN
  rw [parS_field]
  by_cases q : w.getD (k + 1) 0 = h.getD k 0
  · rw [if_pos (by simpa using q), if_pos q]
  · rw [if_neg (by simpa using q), if_neg q]
theorem kept_eq (d : List Int) (w h : List Nat) (K : Nat) : keptL ((List.range K).map (fldN d w h)) (h.map dot) (ci w) = keptN d w h K := by
  unfold keptL keptN
  rw [List.length_map, List.length_range]
  refine List.map_congr_left fun k hk => ?_
  have hk := List.mem_range.mp hk
  have e : ((List.range K).map (fldN d w h)).getD k ("" : Str) = fldN d w h k := by
    rw [List.getD_eq_getElem?_getD, List.getElem?_map, List.getElem?_range hk]; rfl
  rw [ci_getD, dots_getD, dot_len, e]
  by_cases q : w.getD (k + 1) 0 = h.getD k 0
  · rw [if_pos (by rw [q]), if_pos q]
  · rw [if_neg (show ¬ ((w.getD (k + 1) 0 : Nat) : Int) = ((h.getD k 0 : Nat) : Int) by omega), if_neg q]
theorem kept_asked (d : List Int) (w h : List Nat) (K : Nat) (hK : askK h = List.range K) : (keptN d w h K == (List.range K).map (fldN d w h)) = (crN w h).all fun b => b.1 == b.2 := by
  have hl : (askK h).length = K := by rw [hK, List.length_range]
  rw [Bool.eq_iff_iff, beq_iff_eq, List.all_eq_true]
  unfold keptN crN
  rw [hl, List.map_inj_left]
  constructor
  · intro q b hb
    obtain ⟨k, hk, rfl⟩ := List.mem_map.mp hb
    have := q k hk
    by_cases z : w.getD (k + 1) 0 = h.getD k 0
    · simpa using z
    · rw [if_neg z] at this
      exfalso
      have h1 := parS_bad
      rw [this] at h1
      unfold fldN at h1
      rw [parS_field] at h1
      exact z (by simpa using h1)
  · intro q k hk
    have := q _ (List.mem_map.mpr ⟨k, hk, rfl⟩)
    rw [if_pos (by simpa using this)]
theorem overV_eq (w h : List Nat) (K : Nat) (hK : askK h = List.range K) (h1 : K + 1 ≤ w.length) (h2 : K ≤ h.length) : overV (ci w) (h.map dot) K = ((((crN w h).map (·.1)).sum : Nat) : Int) - ((((crN w h).map (·.2)).sum : Nat) : Int) := by
  have hl : (askK h).length = K := by rw [hK, List.length_range]
  unfold overV crN
  rw [pickG_from1 _ K (by rw [List.length_map]; exact h1), pickG_take, drop1_range 0 K _ (by rw [List.length_map]; exact h1), take_range ("" : Str) K _ (by rw [List.length_map]; exact h2), hl, ← sum_ci, ← sum_ci]
  congr 2
  · rw [List.map_map]
    show _ = List.map (fun n : Nat => (n : Int)) (List.map _ (List.range K))
    rw [List.map_map]
    refine List.map_congr_left fun k _ => ?_
    exact ci_getD w (k + 1)
  · rw [List.map_map, List.map_map]
    show _ = List.map (fun n : Nat => (n : Int)) (List.map _ (List.range K))
    rw [List.map_map]
    refine List.map_congr_left fun k _ => ?_
    simp only [Function.comp]
    rw [dots_getD, dot_len]
def bsN (d : List Int) (w h : List Nat) (K : Nat) : List (Int × Nat × Nat) := (List.range K).map fun k => (d.getD k 0, w.getD (k + 1) 0, h.getD k 0)
theorem last_tl (d : List Int) (w h : List Nat) (K : Nat) (m : Int) : tl (Txt.join "" ((List.range K).map (fldN d w h)) ++ Txt.mul "))" m) = (bsN d w h K).flatMap blockL ++ List.replicate (2 * m.toNat) 41 := by
  rw [tl_append, tl_join0, tl_mul]
  congr 1
  · unfold bsN
    rw [List.map_map, List.flatMap_map, List.flatMap_def]
    congr 1
    refine List.map_congr_left fun k _ => ?_
    simp only [Function.comp]
    unfold fldN
    rw [tl_field]
  · show (List.replicate m.toNat [41, 41]).flatten = _
    induction m.toNat with
    | zero => rfl
    | succ n ih =>
      rw [List.replicate_succ, List.flatten_cons, ih, show 2 * (n + 1) = 2 * n + 1 + 1 by omega, List.replicate_succ, List.replicate_succ]; rfl
theorem last_par (d : List Int) (w h : List Nat) (K : Nat) (hK : askK h = List.range K) : parS (Txt.join "" ((List.range K).map (fldN d w h)) ++ Txt.mul "))" ((((((crN w h).map (·.1)).sum : Nat) : Int) - ((((crN w h).map (·.2)).sum : Nat) : Int)).fdiv 2)) = okA (crN w h) := by
  have hl : (askK h).length = K := by rw [hK, List.length_range]
  rw [parS_blocks _ _ _ (last_tl d w h K _)]
  have e : (bsN d w h K).map (·.2) = crN w h := by
    unfold bsN crN
    rw [List.map_map, hl]; rfl
  rw [e]
  unfold okA
  cases q : runN 0 (crN w h) with
  | none => rfl
  | some k =>
    have := runN_sum _ _ _ q
    dsimp only
    rw [Int.fdiv_eq_ediv_of_nonneg _ (by decide), Bool.eq_iff_iff, beq_iff_eq, beq_iff_eq]
    omega
end SC
namespace SC
open PySem PySem.Spec PySem.Calls PyProof.Rows PySem.W Builtin Builtin.Str StrLaws
set_option maxRecDepth 100000
theorem pickG_rev5 {α : Type} (a b c d e : α) : pickG [e, d, c, b, a] none none (some (-1)) = [a, b, c, d, e] := by
  have h : sliceRange (sliceBounds none none (some (-1)) 5).1 (sliceBounds none none (some (-1)) 5).2.1 (sliceBounds none none (some (-1)) 5).2.2 = [4, 3, 2, 1, 0] := by decide +kernel
  show (sliceRange (sliceBounds none none (some (-1)) 5).1 (sliceBounds none none (some (-1)) 5).2.1 (sliceBounds none none (some (-1)) 5).2.2).filterMap ([e, d, c, b, a][·]?) = _
  rw [h]; rfl
theorem pickG_last6 {α : Type} (a b c d e f : α) : pickG [a, b, c, d, e, f] none (some (-1)) none = [a, b, c, d, e] := by
  have h : sliceRange (sliceBounds none (some (-1)) none 6).1 (sliceBounds none (some (-1)) none 6).2.1 (sliceBounds none (some (-1)) none 6).2.2 = [0, 1, 2, 3, 4] := by decide +kernel
  show (sliceRange (sliceBounds none (some (-1)) none 6).1 (sliceBounds none (some (-1)) none 6).2.1 (sliceBounds none (some (-1)) none 6).2.2).filterMap ([a, b, c, d, e, f][·]?) = _
  rw [h]; rfl
section
variable {W : Wd} {Cl N fi : Addr} {mN : Str → Option Value} {Ar : Around} {L f : Addr} {cd pm doc : Value} {ent : Heap} {mu : List Addr}
theorem law_tail (O : OkW W) (OC : OkC W Cl N fi mN) (d : List Int) (l δ h w : List Nat) (K : Nat) (hd5 : d.length = 5) (hl5 : l.length = 5) (hl : ∀ x ∈ l, x < 5) (H : Num l δ h w K) (rm : Rm Ar 20) :
    Run W false (lC Ar L f cd pm doc ent mu) mu (rho6 d (ci l) (h.map dot) Cl (nA (ci (tabsN l)))) (dLaw.body.drop 6) (.bool true) := by
  obtain ⟨a, b, c, e, g, hδ, a5, ba, cb, ec, ge⟩ := H.five
  have hle : h.length = 5 := by rw [H.hh, hδ]; rfl
  have hh5 : ∀ x ∈ h, x ≤ 5 := by
    intro x hx
    rw [H.hh] at hx
    obtain ⟨y, hy, rfl⟩ := List.mem_map.mp hx
    have := hl y (H.perm.subset hy)
    unfold up1; omega
  have hget : ∀ k, h.getD k 0 ≤ 5 := fun k => by
    rw [List.getD_eq_getElem?_getD]
    cases q : h[k]? with
    | none => exact Nat.zero_le _
    | some x => exact hh5 x (List.mem_of_getElem? q)
  have hK4 : K ≤ 4 := by
    have h1 : (askK h).length = K := by rw [H.ask, List.length_range]
    have h2 : (askK h).length ≤ 4 := by
      have := List.length_filter_le (fun k => decide (k + 1 < h.getD k 0)) (List.range 4)
      rw [List.length_range] at this
      exact this
    omega
  have htall : ∀ k, ((h.map dot).getD k "").length ≤ 1000 := fun k => by
    rw [dots_getD, dot_len]; have := hget k; omega
  have ht5 : (tabsN l).length ≤ 5 := by rw [H.tab, List.length_map, List.length_range, hδ]; show a + 1 ≤ 5; omega
  have hwl : w.length ≤ 5 := by rw [H.hw]; unfold colN; rw [List.length_map, List.length_range]; exact ht5
  have hcl : (ci l).length = 5 := by rw [List.length_map]; exact hl5
  have hM : ∀ x ∈ l, x ≤ a := by
    intro x hx
    have h1 : x ∈ δ := H.perm.symm.subset hx
    rw [hδ] at h1
    simp at h1; omega
  have ha : a ∈ l := H.perm.subset (by rw [hδ]; simp)
  have hK1 : (crN w h) = (List.range K).map fun k => (w.getD (k + 1) 0, h.getD k 0) := by
    unfold crN; rw [H.ask, List.length_range]
  refine law7 O OC d (ci l) (h.map dot) a (ci (tabsN l)) (List.mem_map.mpr ⟨a, ha, rfl⟩) (fun x hx => ?_) (by omega) (by omega) ?_ ?_
  · obtain ⟨y, hy, rfl⟩ := List.mem_map.mp hx
    have := hM y hy; omega
  · rw [H.tab, hδ, ci, List.map_map]
    refine List.map_congr_left fun x _ => ?_
    show ((l.count x : Nat) : Int) = ((ci l).count (x : Int) : Nat)
    rw [count_ci]
  refine law8 O OC d (ci l) (h.map dot) (ci (tabsN l)) (by rw [List.length_map]; omega) rm ?_
  rw [colL_ci, ← H.hw]
  refine law9 O d (ci l) (h.map dot) (ci w) (by omega) (by rw [List.length_map]; omega) (fun k hk4 hk => ?_) (fun k _ => htall k) (fun k => ?_) rm ?_
  · rw [dots_getD, dot_len] at hk
    have h1 : k ∈ askK h := List.mem_filter.mpr ⟨List.mem_range.mpr hk4, decide_eq_true hk⟩
    rw [H.ask] at h1
    have := List.mem_range.mp h1
    have := H.Kw
    rw [List.length_map]; omega
  · rw [ci_getD]
    have : w.getD k 0 ≤ 5 := by
      rw [List.getD_eq_getElem?_getD]
      cases q : w[k]? with
      | none => exact Nat.zero_le _
      | some x => exact H.w5 x (List.mem_of_getElem? q)
    omega
  rw [fields_eq, H.ask]
  have hal : ((List.range K).map (fldN d w h)).length = K := by rw [List.length_map, List.length_range]
  have hfl : ∀ v ∈ (List.range K).map (fldN d w h), v.length ≤ 16 := fun v hv => by
    obtain ⟨k, _, rfl⟩ := List.mem_map.mp hv
    exact fld_len d w h k 5 H.w5 hh5
  have hok : ∀ v ∈ (List.range K).map (fldN d w h), PyData.strOk v = true := fun v hv => by
    obtain ⟨k, _, rfl⟩ := List.mem_map.mp hv
    exact fld_ok d w h k
  have hkok : ∀ v ∈ keptN d w h K, PyData.strOk v = true := fun v hv => by
    obtain ⟨k, _, rfl⟩ := List.mem_map.mp hv
    show PyData.strOk (if _ then _ else _) = true
    split
    · exact fld_ok d w h k
    · exact bad_ok
  refine law10 O d (ci l) (h.map dot) (ci w) _ (by omega) (by rw [hal, List.length_map]; exact H.Kw) (by rw [hal, List.length_map]; omega) htall ?_
  rw [kept_eq]
  refine law11 O d (ci l) (h.map dot) (ci w) _ (keptN d w h K) (by omega) (fun v hv => by have := hfl v hv; omega) (pre_kept d w h K) hkok rm ?_
  refine law12 O d (ci l) (h.map dot) (ci w) _ (keptN d w h K) 5 hcl (by decide) ((netsN 5 l : Nat) : Int) (nets_eq 5 l hl5) rm ?_
  have hov := overV_eq w h K H.ask (by have := H.Kw; omega) (by omega)
  refine law13 O d (ci l) (h.map dot) (ci w) _ (keptN d w h K) ((netsN 5 l : Nat) : Int) (((((crN w h).map (·.1)).sum : Nat) : Int) - ((((crN w h).map (·.2)).sum : Nat) : Int)) (by rw [hal]; exact hov) (by omega) (by rw [List.length_map]; omega) (by rw [List.length_map]; omega) (fun x hx => ?_) ?_ ?_
  · rw [hal, pickG_take] at hx
    have hx := List.mem_of_mem_take hx
    obtain ⟨y, hy, rfl⟩ := List.mem_map.mp hx
    rw [dot_len]; have := hh5 y hy; omega
  · rw [hal, pickG_take, List.length_take]; omega
  have hcs : (((crN w h).map (·.1)).sum ≤ 20) ∧ (((crN w h).map (·.2)).sum ≤ 20) := by
    have key : ∀ (q : List Nat) (n : Nat), q.length ≤ n → (∀ x ∈ q, x ≤ 5) → q.sum ≤ 5 * n := by
      intro q
      induction q with
      | nil => intro n _ _; simp
      | cons x r ih =>
        intro n hn hx
        obtain ⟨n, rfl⟩ : ∃ m, n = m + 1 := ⟨n - 1, by rw [List.length_cons] at hn; omega⟩
        have h1 := ih n (by rw [List.length_cons] at hn; omega) fun y hy => hx y (List.mem_cons_of_mem _ hy)
        have h2 := hx x (List.mem_cons_self ..)
        rw [List.sum_cons]; omega
    constructor
    · refine key _ 4 (by rw [hK1]; simpa using hK4) fun x hx => ?_
      rw [hK1, List.map_map] at hx
      obtain ⟨k, _, rfl⟩ := List.mem_map.mp hx
      show w.getD (k + 1) 0 ≤ 5
      rw [List.getD_eq_getElem?_getD]
      cases q : w[k + 1]? with
      | none => exact Nat.zero_le _
      | some x => exact H.w5 x (List.mem_of_getElem? q)
    · refine key _ 4 (by rw [hK1]; simpa using hK4) fun x hx => ?_
      rw [hK1, List.map_map] at hx
      obtain ⟨k, _, rfl⟩ := List.mem_map.mp hx
      exact hget k
  obtain ⟨hc1, hc2⟩ := hcs
  have hsum : (((List.range K).map (fldN d w h)).map (·.length)).sum ≤ K * 16 := by
    have key : ∀ q : List Str, (∀ x ∈ q, x.length ≤ 16) → (q.map (·.length)).sum ≤ q.length * 16 := by
      intro q
      induction q with
      | nil => intro _; simp
      | cons x r ih =>
        intro hx
        have h1 := ih fun y hy => hx y (List.mem_cons_of_mem _ hy)
        have h2 := hx x (List.mem_cons_self ..)
        rw [List.map_cons, List.sum_cons, List.length_cons]; omega
    have := key _ hfl
    rw [hal] at this; exact this
  refine law14 O (ci l) (h.map dot) _ (keptN d w h K) ((netsN 5 l : Nat) : Int) _ _ rfl ?_ (joinOk_of ?_) ?_ ?_ rm ?_
  · rw [tl_len, tl_append, List.length_append, tl_join0, List.length_flatten, List.map_map, List.map_map]
    have e1 : ((List.range K).map ((List.length ∘ tl) ∘ fldN d w h)).sum ≤ K * 16 := by
      have e2 : (List.range K).map ((List.length ∘ tl) ∘ fldN d w h) = ((List.range K).map (fldN d w h)).map (·.length) := by
        rw [List.map_map]
        refine List.map_congr_left fun k _ => ?_
        exact (tl_len _).symm
      rw [e2]; exact hsum
    rw [Int.fdiv_eq_ediv_of_nonneg _ (by decide), tl_mul]
    have e3 : ∀ m : Nat, (List.replicate m (tl ("))" : Str))).flatten.length = m * 2 := fun m => by
      rw [List.length_flatten, List.map_replicate]
      induction m with
      | zero => rfl
      | succ m ih => rw [List.replicate_succ, List.sum_cons, ih, Nat.add_mul]; show 2 + _ = _; omega
    rw [e3]
    omega
  · rw [hal]
    have : ("" : Str).length = 0 := by decide
    rw [this]; omega
  · omega
  · rw [last_par d w h K H.ask, H.A]
    rw [Bool.eq_iff_iff, decide_eq_true_eq, decide_eq_true_eq]; omega
  have hnt : (((netsN 5 l : Nat) : Int) == 1) = (netsN 5 l == 1) := by
    rw [Bool.eq_iff_iff, beq_iff_eq, beq_iff_eq]; omega
  refine law15 (ci l) (h.map dot) _ (keptN d w h K) ((netsN 5 l : Nat) : Int) hkok hok ?_ ?_
  · rw [kept_asked d w h K H.ask, H.U, hnt]
  refine law16 O (ci l) (h.map dot) _ (keptN d w h K) ((netsN 5 l : Nat) : Int) (ms := ci δ.reverse) (by rw [List.length_map]; omega) (fun x hx => ?_) (by omega) ?_ ?_ ?_ rm
  · obtain ⟨y, hy, rfl⟩ := List.mem_map.mp hx
    rw [dot_len]; have := hh5 y hy; omega
  · exact (((List.reverse_perm δ).trans H.perm).map _)
  · rw [ci, List.pairwise_map, List.pairwise_reverse]
    exact H.sort.imp fun {x y} q => by have q : x ≥ y := q; omega
  · rw [told_ci, hnt, ← H.T]
    have e1 : pickG (ci δ.reverse) none none (some (-1)) = ci δ := by rw [hδ]; exact pickG_rev5 _ _ _ _ _
    rw [e1, Bool.eq_iff_iff, beq_iff_eq, beq_iff_eq]
    constructor
    · intro q
      have := congrArg (List.map Int.toNat) q
      simpa [ci, List.map_map, Function.comp_def] using this
    · intro q; rw [q]
end
end SC
namespace SC
open PySem PySem.Spec PySem.Calls PyProof.Rows PySem.W Builtin Builtin.Str StrLaws
set_option maxRecDepth 100000
variable {W : Wd} {Cl N fi : Addr} {mN : Str → Option Value}
theorem law_con (O : OkW W) (P : OkP W) (OC : OkC W Cl N fi mN) (s : List Int) (hs : s.length ≤ 63) : Con W false dLaw [aI s] (.bool true) 20 := by
  refine Con.intro1 (n := 16) (x := "script") (O.defs 21 (by decide)) ?_
  intro Ar L f cd pm doc ent mu rm hB hmu
  obtain ⟨d0, d1, d2, d3, d4, hd⟩ := drawn5 s
  have h5 : (pickG s none (some 5) none).length ≤ 5 := by
    have e := pickG_take s 5
    have e' : pickG s none (some 5) none = s.take 5 := e
    rw [e', List.length_take]; omega
  refine law1 s (by omega) h5 ?_
  rw [hd]
  refine law2 O [d0, d1, d2, d3, d4] (by simp) rm rfl ?_
  obtain ⟨l, hl⟩ : ∃ l, l = dN [d0, d1, d2, d3, d4] := ⟨_, rfl⟩
  have hl5 : l.length = 5 := by rw [hl]; rfl
  have hlt : ∀ x ∈ l, x < 5 := by
    intro x hx
    rw [hl] at hx
    obtain ⟨z, _, rfl⟩ := List.mem_map.mp hx
    have := fmod_range z 5 (by omega)
    omega
  have hlt' : ∀ x ∈ l.map up1, x ≤ 5 := by
    intro x hx
    obtain ⟨z, hz, rfl⟩ := List.mem_map.mp hx
    have := hlt z hz
    unfold up1; omega
  have hdue : ([d0, d1, d2, d3, d4].map fun x => x.fmod 5) = ci l := by rw [hl]; exact due_eq _
  rw [hdue]
  have hPl : (mk (rowsN l)).length ≤ 35 := by
    have := rowsN_len 5 l fun x hx => by have := hlt x hx; omega
    rw [len_mk]; omega
  have hSl : (mk (rowsN (l.map up1))).length ≤ 35 := by
    have := rowsN_len 5 (l.map up1) hlt'
    rw [List.length_map] at this
    rw [len_mk]; omega
  refine law3 O P [d0, d1, d2, d3, d4] (ci l) (mailS [d0, d1, d2, d3, d4]) (mk (rowsN (l.map up1))) (mk (rowsN l)) ?_ (by rw [hl]; exact quote_mailS _) (by rw [hl]; exact fix_mailS _) (by omega) rm ?_
  · have := mail_len [d0, d1, d2, d3, d4]
    rw [tl_len, mail_tl]
    simp only [List.length_cons, List.length_nil] at this ⊢
    omega
  refine law4 O [d0, d1, d2, d3, d4] (ci l) (mk (rowsN (l.map up1))) (mk (rowsN l)) (fun x hx => ?_) (by rw [List.length_map]; omega) (law4_S l) (law4_P l) (strOk_of (rows_small _)) (strOk_of (rows_small _)) ?_
  · obtain ⟨y, hy, rfl⟩ := List.mem_map.mp hx
    have := hlt y hy; omega
  obtain ⟨δ, h, w, K, hδ, H⟩ := num_of l hl5 hlt
  obtain ⟨a, b, c, e, g, hδ5, _⟩ := H.five
  have htl : (Txt.split (mk (rowsN (l.map up1))) "\r\n").length = 6 := by rw [split_rows]; simp [hl5]
  have hup : h.reverse.map dot = ((δ.reverse).map up1).map dot := by rw [H.hh, List.map_reverse, List.map_reverse, List.map_reverse]
  have hlaw5 := law5 (W := W) (Ar := Ar) (L := L) (f := f) (cd := cd) (pm := pm) (doc := doc) (ent := ent) (mu := mu) [d0, d1, d2, d3, d4] (ci l) (mk (rowsN (l.map up1))) (mk (rowsN l)) ((l.map up1).map dot) (h.reverse.map dot) (by omega) (by
      rw [split_rows, hl]
      exact pickG_last6 _ _ _ _ _ _) (by rw [List.length_map, List.length_map]; omega) (by omega) (fun ms hm hs' => by
      rw [hup]
      refine sorted_dots _ ?_ _ ?_ ms hm hs'
      · rw [List.pairwise_map, List.pairwise_reverse]
        exact H.sort.imp fun {x y} q => by have q : x ≥ y := q; unfold up1; omega
      · refine (List.Perm.map _ (List.Perm.map _ ?_))
        exact H.perm.symm.trans (List.reverse_perm δ).symm) (by rw [List.length_map, List.length_reverse, H.hh, hδ5]; simp) O (R := .bool true)
  have htall : pickG (h.reverse.map dot) none none (some (-1)) = h.map dot := by
    rw [H.hh, hδ5]; exact pickG_rev5 _ _ _ _ _
  rw [htall] at hlaw5
  refine hlaw5 ?_
  refine law6 O OC [d0, d1, d2, d3, d4] (ci l) (mk (rowsN l)) (h.map dot) (nA (ci (tabsN l))) (by omega) ?_ (norm_rows l) rm ?_
  · have e1 := ws_tl l
    unfold wsT at e1
    rw [tl_append] at e1
    have e2 := congrArg List.length e1
    rw [List.length_append, List.length_append, ← tl_len] at e2
    have e3 : (l.flatMap fun n => List.replicate n 32 ++ [9]).length ≤ l.length * 6 := by
      clear e1 e2 hup H hlaw5 htall
      have key : ∀ q : List Nat, (∀ x ∈ q, x < 5) → (q.flatMap fun n => List.replicate n 32 ++ [9]).length ≤ q.length * 6 := by
        intro q
        induction q with
        | nil => intro _; simp
        | cons x r ih =>
          intro hx
          have h1 := ih fun y hy => hx y (List.mem_cons_of_mem _ hy)
          have h2 := hx x (List.mem_cons_self ..)
          rw [List.flatMap_cons, List.length_append, List.length_append, List.length_replicate, List.length_cons, List.length_cons, List.length_nil]; omega
      exact key l hlt
    have e4 : (tl ("x \t" : Str)).length = 3 := rfl
    rw [e4] at e2
    simp only [List.length_cons, List.length_nil] at e2
    omega
  exact law_tail O OC [d0, d1, d2, d3, d4] l δ h w K rfl hl5 hlt H rm
end SC
namespace SC
open PySem PySem.Spec PySem.Calls PyProof.Rows PySem.W PySem.Builtin.Re
set_option maxRecDepth 100000
def wdOf (prog : Program) (w : World) {mg mb : Str → Option Value} {defs : List DefItem} {consts : List (Str × PyData)} {names : List Str} {h₀ : Heap} (GL : Glob 0 mg mb defs consts [] names h₀) : Wd :=
  { prog := prog, w := w, N := 0, mg := mg, mb := mb, defs := defs, consts := consts, objs := [], names := names, B := fun h => Kp h₀ h, Bk := fun _ _ k b a o e => k _ _ (b a o e), BG := fun _ b => Glob.keeps GL b }
def entsAt (K : Frag) (a : Addr) : Option (Array DictEntry) := match K.lookup a with
  | some ⟨_, _, .dict es _, _⟩ => some es
  | _ => none
def gOf (K : Frag) (a : Addr) (n : Str) : Option Value := (entsAt K a).bind fun es => nsFind es n
theorem entsAt_is {K : Frag} {a : Addr} {es : Array DictEntry} (e : entsAt K a = some es) : ∃ o ep, K.lookup a = some o ∧ o.data = .dict es ep := by
  unfold entsAt at e
  split at e
  · rename_i c d es' n sl q
    cases e; exact ⟨_, _, q, rfl⟩
  · cases e
theorem gOf_ns {K : Frag} {h : Heap} {a : Addr} {m : Str → Option Value} {n : Str} {v : Value} (X : K.In h) (g : h.Ns a m) (e : gOf K a n = some v) : m n = some v := by
  obtain ⟨o, es, ep, h1, h2, h3, h4⟩ := g
  unfold gOf at e
  obtain ⟨es', q, e⟩ := Option.bind_eq_some_iff.mp e
  obtain ⟨o', ep', q1, q2⟩ := entsAt_is q
  have := X _ _ q1
  rw [h1] at this; cases this
  rw [h2] at q2; cases q2
  exact (h4 n).symm.trans e
def fieldsAt (K : Frag) (a : Addr) : Option (Value × Option Addr × Array Value) := match K.lookup a with
  | some ⟨c, d, .fields vs, _⟩ => some (c, d, vs)
  | _ => none
def seqAt (K : Frag) (a : Addr) : Option (Array Value) := match K.lookup a with
  | some ⟨_, _, .seq vs _, _⟩ => some vs
  | _ => none
theorem isPat_of {K : Frag} {h : Heap} {a cd : Addr} {v0 v1 v3 v4 : Value} {items : Array Value} {code : Array Nat} (X : K.In h) (e1 : fieldsAt K a = some (.type "re.Pattern", none, #[v0, v1, .int 0 0, v3, v4, .ref cd, .int 0 0]))
    (e2 : seqAt K cd = some items) (e3 : (items.map reRawOf).map (·.toNat) = code) : Rx.IsPat h a code := by
  unfold fieldsAt at e1; unfold seqAt at e2
  split at e1
  · rename_i c d vs sl q1
    cases e1
    split at e2
    · rename_i c2 d2 vs2 n2 sl2 q2
      cases e2
      exact ⟨⟨_, _, _, _, _, _, _, _, _, X _ _ q1, rfl, rfl, rfl, X _ _ q2, rfl, e3⟩⟩
    · cases e2
  · cases e1
def funcAt (K : Frag) (a : Addr) : Option (Value × FuncData) := match K.lookup a with
  | some ⟨c, _, .func fd, _⟩ => some (c, fd)
  | _ => none
def nsG (K : Frag) (a : Addr) (n : Str) : Option Value := gOf K a n
theorem clsAt_of {K : Frag} {h : Heap} {C N f c : Addr} {nm q : Str} {bs sub : List Value} {sn : List Str} {col : Option Bool} {dd : Option Addr} {k0 k1 k2 k3 k5 : Option Value} {pm doc : Value} {es : Array DictEntry} {cf : Array Value} {cc : Value} {cd' : Option Addr} {tq : Tok}
    (X : K.In h) (e1 : K.lookup C = some (excClassObj nm q C N bs [.type "object"] true sn sub false col dd k0 k1 k2 k3 k5 "object.__new__")) (e2 : entsAt K N = some es) (sk : StrKeys es)
    (e3 : gOf K N "__init__" = some (.ref f)) (e4 : ∀ x ∈ ([("__setattr__" : Str), "__getattribute__", "raw", "n", "nt", "norm", "is_simple"] : List Str), gOf K N x = none)
    (e5 : funcAt K f = some (.type "function", initF pm (.ref c) doc)) (e6 : fieldsAt K c = some (cc, cd', cf)) (e7 : cf[1]? = some (.str "Whitespace.__init__" tq)) : ClsAt h C N f (gOf K N) := by
  refine ⟨⟨nm, q, bs, sn, sub, col, dd, k0, k1, k2, k3, k5, X _ _ e1⟩, ?_, e3, e4, ?_⟩
  · obtain ⟨o, ep, q1, q2⟩ := entsAt_is e2
    exact ⟨o, es, ep, X _ _ q1, q2, sk, fun n => by unfold gOf; rw [e2]; rfl⟩
  · unfold funcAt at e5; unfold fieldsAt at e6
    split at e5
    · rename_i c1 d1 fd1 sl1 q1
      cases e5
      split at e6
      · rename_i c2 d2 vs2 sl2 q2
        cases e6
        exact ⟨_, pm, .ref c, doc, X _ _ q1, rfl, rfl, c, _, _, tq, rfl, X _ _ q2, rfl, e7⟩
      · cases e6
    · cases e5
end SC
namespace SC
open PySem PySem.W PyProof.Rows
set_option maxRecDepth 100000
set_option maxHeartbeats 8000000
open_top hd for PySem.Challenge.rw_sc0070_01
end SC
namespace SC
open PySem PySem.Spec PySem.Calls PyProof.Rows PySem.W PySem.Builtin.Re
set_option maxRecDepth 100000
set_option maxHeartbeats 8000000
theorem defsT : (recsOf hd.view_39).map itemOf = [1, 3, 4, 5, 6, 11, 12, 16, 17, 18, 19, 20, 21].map itemAt := by kernel_rfl
theorem freeT : ∀ x ∈ bns, x ∉ namesW hd.view_39 ["_twin_re_1", "_twin_re_2", "Whitespace"] := by decide +kernel
theorem crlfT : (constsW hd.view_39)[0]? = some (("CRLF" : Str), PyData.str "\r\n") := by kernel_rfl
theorem g1T (P : Params) : gOf (hd.heap_39 P) mainGlobals "_twin_re_1" = some (.ref 71) := by kernel_rfl
theorem g2T (P : Params) : gOf (hd.heap_39 P) mainGlobals "_twin_re_2" = some (.ref 76) := by kernel_rfl
theorem g3T (P : Params) : gOf (hd.heap_39 P) mainGlobals "Whitespace" = some (.ref 152) := by kernel_rfl
theorem p1T (P : Params) : fieldsAt (hd.heap_39 P) 71 = some (.type "re.Pattern", none, #[.str "(?m)^\\." 335, .int 40 348, .int 0 0, .none, .none, .ref 70, .int 0 0]) := by kernel_rfl
theorem p2T (P : Params) : fieldsAt (hd.heap_39 P) 76 = some (.type "re.Pattern", none, #[.str "(?:\\r\\n|\\n|\\r(?!\\n))" 351, .int 32 390, .int 0 0, .none, .none, .ref 75, .int 0 0]) := by kernel_rfl
theorem q1T (P : Params) : seqAt (hd.heap_39 P) 70 = some (Rx.c1.map fun n => .int (n : Int) 0) := by kernel_rfl
theorem q2T (P : Params) : seqAt (hd.heap_39 P) 75 = some (Rx.c2.map fun n => .int (n : Int) 0) := by kernel_rfl
end SC
namespace SC
open PySem PySem.Spec PySem.Calls PyProof.Rows PySem.W PySem.Builtin.Re
set_option maxRecDepth 100000
set_option maxHeartbeats 8000000
def isStrKey (e : DictEntry) : Bool := match e.key with
  | .str _ _ => true
  | _ => false
theorem strKeys_of {es : Array DictEntry} (h : es.toList.all isStrKey = true) : StrKeys es := fun e he => by
  have := List.all_eq_true.mp h e (by simpa using he)
  unfold isStrKey at this
  split at this
  · rename_i n t q; exact ⟨n, t, q⟩
  · cases this
theorem c1T (P : Params) : (hd.heap_39 P).lookup 152 = some (excClassObj "Whitespace" "Whitespace" 152 151 [.type "object"] [.type "object"] true [] [] false none none none none (some (.str "Whitespace" 410)) (some (.str "Whitespace" 418)) (some (.bool true)) "object.__new__") := by kernel_rfl
theorem c2T (P : Params) : (entsAt (hd.heap_39 P) 151).isSome = true := by kernel_rfl
theorem c3T (P : Params) : ((entsAt (hd.heap_39 P) 151).getD #[]).toList.all isStrKey = true := by kernel_rfl
theorem c4T (P : Params) : gOf (hd.heap_39 P) 151 "__init__" = some (.ref 107) := by kernel_rfl
theorem c5T (P : Params) : ([("__setattr__" : Str), "__getattribute__", "raw", "n", "nt", "norm", "is_simple"] : List Str).all (fun x => (gOf (hd.heap_39 P) 151 x).isNone) = true := by kernel_rfl
theorem c6T (P : Params) : funcAt (hd.heap_39 P) 107 = some (.type "function", initF (.str "cpy313.tabnanny" 408) (.ref 106) .none) := by kernel_rfl
theorem c7T (P : Params) : ((fieldsAt (hd.heap_39 P) 106).map fun x => x.2.2[1]?) = some (some (.str "Whitespace.__init__" 428)) := by kernel_rfl
theorem r1T (P : Params) : readsIn (hd.heap_39 P) 152 (.type "type") = true := by kernel_rfl
theorem r2T (P : Params) : findCls (hd.heap_39 P) (.ref 152) (.type "type") "S" = some (.val (.str " " 423)) := by kernel_rfl
theorem r3T (P : Params) : findCls (hd.heap_39 P) (.ref 152) (.type "type") "T" = some (.val (.str "\t" 424)) := by kernel_rfl
end SC
namespace SC
open PySem PySem.Spec PySem.Calls PyProof.Rows PySem.W PySem.Builtin.Re
set_option maxRecDepth 100000
set_option maxHeartbeats 8000000
theorem okW_of (prog : Program) (w : World) {mg mb : Str → Option Value} {h₀ : Heap} (GL : Glob 0 mg mb ((recsOf hd.view_39).map itemOf) (scalarsOf [] ++ constsW hd.view_39) [] (namesW hd.view_39 ["_twin_re_1", "_twin_re_2", "Whitespace"]) h₀) : OkW (wdOf prog w GL) where
  defs := fun n hn => by
    show itemAt n ∈ (recsOf hd.view_39).map itemOf
    rw [defsT]
    exact List.mem_map.mpr ⟨n, List.mem_cons_of_mem _ hn, rfl⟩
  free := freeT
theorem okP_of (prog : Program) (w : World) {mg mb : Str → Option Value} {h₀ : Heap} (GL : Glob 0 mg mb ((recsOf hd.view_39).map itemOf) (scalarsOf [] ++ constsW hd.view_39) [] (namesW hd.view_39 ["_twin_re_1", "_twin_re_2", "Whitespace"]) h₀)
    {P : Params} (X : (hd.heap_39 P).In h₀) : OkP (wdOf prog w GL) where
  pat1 := fun h b => ⟨71, gOf_ns X GL.g (g1T P), isPat_of (X.keeps b) (p1T P) (q1T P) (by decide +kernel)⟩
  pat2 := fun h b => ⟨76, gOf_ns X GL.g (g2T P), isPat_of (X.keeps b) (p2T P) (q2T P) (by decide +kernel)⟩
  crlf := List.mem_of_getElem? (i := 0) crlfT
theorem okC_of (prog : Program) (w : World) {mg mb : Str → Option Value} {h₀ : Heap} (GL : Glob 0 mg mb ((recsOf hd.view_39).map itemOf) (scalarsOf [] ++ constsW hd.view_39) [] (namesW hd.view_39 ["_twin_re_1", "_twin_re_2", "Whitespace"]) h₀)
    {P : Params} (X : (hd.heap_39 P).In h₀) : OkC (wdOf prog w GL) 152 151 107 (gOf (hd.heap_39 P) 151) where
  cls := fun h b => by
    obtain ⟨es, hes⟩ := Option.isSome_iff_exists.mp (c2T P)
    have sk := strKeys_of (c3T P)
    rw [hes] at sk
    have c7 := c7T P
    cases q : fieldsAt (hd.heap_39 P) 106 with
    | none => rw [q] at c7; cases c7
    | some x =>
      rw [q] at c7
      obtain ⟨x1, x2, x3⟩ := x
      have e7 : x3[1]? = some (.str "Whitespace.__init__" 428) := by simpa using c7
      exact clsAt_of (X.keeps b) (c1T P) hes sk (c4T P) (fun x hx => by simpa using List.all_eq_true.mp (c5T P) x hx) (c6T P) q e7
  g := gOf_ns X GL.g (g3T P)
  attS := fun A s Q E ex hB k => cls_value (X.keeps hB) (r1T P) (r2T P) rfl (k 423)
  attT := fun A s Q E ex hB k => cls_value (X.keeps hB) (r1T P) (r3T P) rfl (k 424)
theorem holdsX : PySem.Challenge.rw_sc0070_01.Holds := hd (by
  intro w s₀ s₁ mg mb G Y fa o pm cd doc dV kV ho hdd hcd hD hmg hg args vals as hpre hlay hrd hwl hlo
  have KX := kIn_of Y
  have V := (Ground.X G).2
  have GL := glob_more (Ground.glob G (by decide +kernel) (by decide +kernel)) V
  wrow_args hpre hlay hrd hwl hlo
  rename_i ns _ _ _ _ _ _ _ la vs _ hL _ hW _ hI _ hlen _
  obtain ⟨n0, hlst⟩ : ∃ n, s₁.heap.get? la = some (lstO vs n) := by
    cases hW with
    | list e _ =>
      obtain ⟨o', e1, e2, n', e3⟩ := hL
      rw [e] at e1; cases e1
      cases e3
      exact ⟨_, e⟩
  have hcon := law_con (okW_of PySem.Challenge.rw_sc0070_01.row.prog w GL) (okP_of _ w GL KX) (okC_of _ w GL KX) ns (by omega)
  refine hcon callerA s₁ [] fa [.ref la] ⟨rfl, by decide +kernel, by decide +kernel⟩ (fun _ _ e => e) (fun _ h => by cases h) hmg (Vs.cons (SC.V.list (fz.of hlst (by simp)) (Vs.of_ints hI)) Vs.nil) _ _ fun v s' x hv => ?_
  obtain rfl := hv.bool_is
  refine ⟨.inl ⟨.bool true, .bool true, [], rfl, fun cls => rfl, .bool _, by wrow_post, fun _ => ⟨List.nodup_nil, fun _ h => by cases h⟩⟩, .of_keep x.kp, x.os, ?_⟩
  obtain ⟨l, e, hb⟩ : GE s₁.gens s'.gens := x.ge
  intro y hy
  have hy' : y ∈ s'.gens.toList := by simpa using hy
  rw [e, hg] at hy'
  exact hb y (by simpa using hy'))
end SC
set_option maxRecDepth 100000 in
set_option maxHeartbeats 8000000 in
theorem PySem.Challenge.cw_sc0070_01_holds : PySem.Challenge.rw_sc0070_01.Holds := by
  exact SC.holdsX
