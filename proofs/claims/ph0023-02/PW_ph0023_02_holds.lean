import PyProof.Rows.All
import Wide.All
import OpenK.AllK
import Wide.FinOn
import Lean
import PySem.Challenge.RW_ph0023_02
open PySem PySem.W PyProof.Rows
set_option Elab.async false
set_option genSizeOf false
namespace Mine
theorem bind0 {α β : Type _} {f g : List α → β} (h : f [] = g []) (vs : List α) (hv : vs.length = 0) : f vs = g vs := by
  cases vs with
  | nil => exact h
  | cons a r => exact absurd hv (Nat.succ_ne_zero _)
theorem bind1 {α β : Type _} {f g : List α → β} (h : ∀ a : α, f [a] = g [a]) (vs : List α) (hv : vs.length = 1) : f vs = g vs := by
  cases vs with
  | nil => exact absurd hv.symm (Nat.succ_ne_zero _)
  | cons a r => exact bind0 (f := fun r => f (a :: r)) (g := fun r => g (a :: r)) (h a) r (Nat.succ.inj hv)
theorem bind2 {α β : Type _} {f g : List α → β} (h : ∀ a b : α, f [a, b] = g [a, b]) (vs : List α) (hv : vs.length = 2) : f vs = g vs := by
  cases vs with
  | nil => exact absurd hv.symm (Nat.succ_ne_zero _)
  | cons a r => exact bind1 (f := fun r => f (a :: r)) (g := fun r => g (a :: r)) (fun b => h a b) r (Nat.succ.inj hv)
theorem bind3 {α β : Type _} {f g : List α → β} (h : ∀ a b c : α, f [a, b, c] = g [a, b, c]) (vs : List α) (hv : vs.length = 3) : f vs = g vs := by
  cases vs with
  | nil => exact absurd hv.symm (Nat.succ_ne_zero _)
  | cons a r => exact bind2 (f := fun r => f (a :: r)) (g := fun r => g (a :: r)) (fun b c => h a b c) r (Nat.succ.inj hv)
theorem bind4 {α β : Type _} {f g : List α → β} (h : ∀ a b c d : α, f [a, b, c, d] = g [a, b, c, d]) (vs : List α) (hv : vs.length = 4) : f vs = g vs := by
  cases vs with
  | nil => exact absurd hv.symm (Nat.succ_ne_zero _)
  | cons a r => exact bind3 (f := fun r => f (a :: r)) (g := fun r => g (a :: r)) (fun b c d => h a b c d) r (Nat.succ.inj hv)
/-- a table of a code object (which grows when an inner def is first met) -/
noncomputable def isTab (o : Obj) : Bool := match o.cls, o.data with
  | .none, .fields _ => true
  | _, _ => false
noncomputable def isCode (o : Obj) : Prop := o.cls = .type "code" ∧ ∃ vs, o.data = .fields vs
/-- a dict, as a frame is (a raise may write into its slots) -/
noncomputable def isFrm (o : Obj) : Bool := match o.data with
  | .dict _ _ => true
  | _ => false
noncomputable def isVar (o : Obj) : Bool := isTab o || isFrm o
theorem var_fields {o : Obj} {n : String} {vs : Array Value} (h : o.cls = .type n) (hd : o.data = .fields vs) : isVar o = false := by unfold isVar isTab isFrm; rw [h, hd]; rfl
theorem var_func {o : Obj} {fd : FuncData} (hd : o.data = .func fd) : isVar o = false := by unfold isVar isTab isFrm; rw [hd]; cases o.cls <;> rfl
/-- what stands fast: the program, the world, the ground heap, and which tables may grow -/
structure Bs where
  prog : Program
  w : World
  hb : Heap
  mg : Str → Option Value
  mb : Str → Option Value
  P0 : Addr
  N0 : Nat
  qual : Nat → Nat → Option Str
  g : hb.Ns mainGlobals mg
  b : hb.Ns builtinsNs mb
  nolimit : hb.NoLimit
  hbl : ∀ x : Str, x ≠ "__name__" → mb x = bootBuiltins x
  nodigits : ∃ mc, hb.Ns cStatics mc ∧ mc "sys.int_max_str_digits" = none
  hP0 : hb.get? P0 = none
  hN0 : hb.objs.size ≤ N0
  bmain : ∃ bm ob, mg "__builtins__" = some (.ref bm) ∧ bm ≠ builtinsNs ∧ hb.get? bm = some ob ∧ ob.cls = .type "module" ∧ ob.dict = some builtinsNs ∧ ob.data = .plain
noncomputable def Bs.mt (B : Bs) (b : Addr) : Prop := b = B.P0 ∨ B.N0 ≤ b
/-- a code object that stands, with its table -/
noncomputable def GoodCode (B : Bs) (h : Heap) (line col : Nat) (c : Addr) : Prop :=
  ∃ q, B.qual line col = some q ∧ ∃ o vs t P, h.get? c = some o ∧ o.cls = .type "code" ∧ o.data = .fields vs ∧ vs[1]? = some (.str q t) ∧ CodeHd h c P ∧ B.mt P
noncomputable def GoodTab (B : Bs) (h : Heap) : Nat → Addr → Prop
  | 0, P => ∃ ps, h.get? P = some (tabObj ps) ∧ TriplesOk ps.toList ∧ ∀ (pos : Pos) v, codeAmong pos ps.toList = some v → ∃ c, v = .ref c ∧ GoodCode B h pos.line pos.col c
  | k + 1, P => ∃ ps, h.get? P = some (tabObj ps) ∧ TriplesOk ps.toList ∧ ∀ (pos : Pos) v, codeAmong pos ps.toList = some v → ∃ c, v = .ref c ∧ GoodCode B h pos.line pos.col c ∧
      ∀ P', CodeHd h c P' → GoodTab B h k P'
/-- what a step keeps: all but F, and the tables that may grow stay good -/
structure Pres (B : Bs) (F : Addr → Prop) (h h' : Heap) : Prop where
  obj : ∀ b o, h.get? b = some o → (¬ F b ∨ isCode o) → (isVar o = false ∨ ¬ B.mt b) → h'.get? b = some o
  frm : ∀ b o, h.get? b = some o → ¬ F b → isFrm o = true → ∃ sl, h'.get? b = some { o with slots := sl }
  tab : ∀ k b, GoodTab B h k b → GoodTab B h' k b
  size : h.objs.size ≤ h'.objs.size
noncomputable abbrev none' : Addr → Prop := fun _ => False
theorem Pres.refl {B : Bs} {F : Addr → Prop} {h : Heap} : Pres B F h h := ⟨fun _ _ e _ _ => e, fun _ o e _ _ => ⟨o.slots, e⟩, fun _ _ x => x, Nat.le_refl _⟩
theorem Pres.data {B : Bs} {F : Addr → Prop} {h h' : Heap} (p : Pres B F h h') {b : Addr} {o : Obj} (e : h.get? b = some o) (hF : ¬ F b) (hd : ∀ vs, o.data ≠ .fields vs) : ∃ sl, h'.get? b = some { o with slots := sl } := by
  cases hf : isFrm o with
  | true => exact p.frm b o e hF hf
  | false => exact ⟨o.slots, p.obj b o e (.inl hF) (.inl (by
      unfold isVar; rw [hf, Bool.or_false]
      unfold isTab; split
      · rename_i vs _ hh; exact absurd hh (hd vs)
      · rfl))⟩
theorem Pres.trans {B : Bs} {F : Addr → Prop} {h₁ h₂ h₃ : Heap} (x : Pres B F h₁ h₂) (y : Pres B F h₂ h₃) : Pres B F h₁ h₃ :=
  ⟨fun b o e f t => y.obj b o (x.obj b o e f t) f t, fun b o e f t => by obtain ⟨sl, e'⟩ := x.frm b o e f t; obtain ⟨sl', e''⟩ := y.frm b _ e' f t; exact ⟨sl', e''⟩, fun k b g => y.tab k b (x.tab k b g), Nat.le_trans x.size y.size⟩
theorem Pres.weak {B : Bs} {F F' : Addr → Prop} {h h' : Heap} (x : Pres B F h h') (hF : ∀ b, F b → F' b) : Pres B F' h h' :=
  ⟨fun b o e f t => x.obj b o e (f.imp (fun n q => n (hF b q)) id) t, fun b o e f t => x.frm b o e (fun q => f (hF b q)) t, x.tab, x.size⟩
theorem Pres.any {B : Bs} {F : Addr → Prop} {h h' : Heap} (x : Pres B none' h h') : Pres B F h h' := x.weak fun _ q => q.elim
theorem GoodCode.keep {B : Bs} {h h' : Heap} {l k : Nat} {c : Addr} (x : GoodCode B h l k c) (hk : ∀ b o, h.get? b = some o → (isCode o ∨ isTab o = true) → h'.get? b = some o) : GoodCode B h' l k c := by
  obtain ⟨q, hq, o, vs, t, P, e, hc, hd, hv, hh, hm⟩ := x
  refine ⟨q, hq, o, vs, t, P, hk _ _ e (.inl ⟨hc, _, hd⟩), hc, hd, hv, ?_, hm⟩
  obtain ⟨o', vs', file, tf, flags, tg, inF, text, tt, e', hc', hd', r⟩ := hh
  exact ⟨o', vs', file, tf, flags, tg, inF, text, tt, hk _ _ e' (.inl ⟨hc', _, hd'⟩), hc', hd', r⟩
theorem CodeHd.back {h h' : Heap} {c P : Addr} {o : Obj} (hc : h.get? c = some o) (hc' : h'.get? c = some o) (x : CodeHd h' c P) : CodeHd h c P := by
  obtain ⟨o', vs', file, tf, flags, tg, inF, text, tt, e', r⟩ := x
  rw [hc'] at e'; cases e'
  exact ⟨_, vs', file, tf, flags, tg, inF, text, tt, hc, r⟩
theorem GoodTab.keep {B : Bs} {h h' : Heap} (hk : ∀ b o, h.get? b = some o → (isCode o ∨ isTab o = true) → h'.get? b = some o) : ∀ k P, GoodTab B h k P → GoodTab B h' k P
  | 0, P, ⟨ps, e, ht, hx⟩ => ⟨ps, hk _ _ e (.inr rfl), ht, fun pos v q => let ⟨c, e1, e2⟩ := hx pos v q; ⟨c, e1, e2.keep hk⟩⟩
  | k + 1, P, ⟨ps, e, ht, hx⟩ => ⟨ps, hk _ _ e (.inr rfl), ht, fun pos v q => let ⟨c, e1, e2, e3⟩ := hx pos v q
      ⟨c, e1, e2.keep hk, fun P' q' => by
        obtain ⟨_, _, o, _, _, _, eo, hc, hd, _⟩ := e2
        exact GoodTab.keep hk k P' (e3 P' (CodeHd.back eo (hk _ _ eo (.inl ⟨hc, _, hd⟩)) q'))⟩⟩
theorem Pres.of_keep {B : Bs} {F : Addr → Prop} {h h' : Heap} (hk : ∀ b o, h.get? b = some o → h'.get? b = some o) (hs : h.objs.size ≤ h'.objs.size) : Pres B F h h' :=
  ⟨fun b o e _ _ => hk b o e, fun b o e _ _ => ⟨o.slots, hk b o e⟩, GoodTab.keep fun b o e _ => hk b o e, hs⟩
theorem Pres.push {B : Bs} {F : Addr → Prop} {h : Heap} (o : Obj) : Pres B F h (h.push o) :=
  .of_keep (fun _ _ e => Heap.get?_push_of_some o e) (by rw [Heap.size_push]; lia)
/-- a thing that may be changed: no code object, no table -/
noncomputable def plainObj (o : Obj) : Prop := ¬ isCode o ∧ isTab o = false
theorem plain_dict {o : Obj} {es : Array DictEntry} {n : Nat} (h : o.data = .dict es n) : plainObj o := ⟨fun ⟨_, _, e⟩ => (by rw [h] at e; cases e), (by unfold isTab; rw [h]; split <;> first | rfl | simp_all)⟩
theorem plain_cell {o : Obj} {v : Option Value} (h : o.data = .cell v) : plainObj o := ⟨fun ⟨_, _, e⟩ => (by rw [h] at e; cases e), (by unfold isTab; rw [h]; split <;> first | rfl | simp_all)⟩
theorem plain_seq {o : Obj} {es : Array Value} {n : Nat} (h : o.data = .seq es n) : plainObj o := ⟨fun ⟨_, _, e⟩ => (by rw [h] at e; cases e), (by unfold isTab; rw [h]; split <;> first | rfl | simp_all)⟩
theorem plain_func {o : Obj} {f : FuncData} (h : o.data = .func f) : plainObj o := ⟨fun ⟨_, _, e⟩ => (by rw [h] at e; cases e), (by unfold isTab; rw [h]; split <;> first | rfl | simp_all)⟩
theorem plain_cls {o : Obj} {n : String} (h : o.cls = .type n) (hn : n ≠ "code") : plainObj o := ⟨fun ⟨e, _⟩ => by rw [h] at e; cases e; exact hn rfl, by unfold isTab; rw [h]⟩
theorem Pres.sameBut {B : Bs} {F : Addr → Prop} {h h' : Heap} {a : Addr} {o : Obj} (hs : Heap.SameBut a h h') (e : h.get? a = some o) (hp : plainObj o) (hF : F a) : Pres B F h h' := by
  refine ⟨fun b o' e' f _ => ?_, fun b o' e' f _ => ⟨o'.slots, (hs.2 b fun q => f (q ▸ hF)).trans e'⟩, GoodTab.keep fun b o' e' f => ?_, Nat.le_of_eq hs.1.symm⟩
  · by_cases hb : b = a
    · subst hb; rw [e] at e'; cases e'; exact absurd hF (f.resolve_right hp.1)
    · exact (hs.2 b hb).trans e'
  · by_cases hb : b = a
    · subst hb; rw [e] at e'; cases e'; rcases f with f | f
      · exact absurd f hp.1
      · rw [hp.2] at f; cases f
    · exact (hs.2 b hb).trans e'
theorem Pres.then {B : Bs} {F : Addr → Prop} {h₀ h h' : Heap} (x : Pres B none' h₀ h) (y : Pres B F h h') (hF : ∀ b, F b → h₀.get? b = none) : Pres B none' h₀ h' :=
  ⟨fun b o e f t => y.obj b o (x.obj b o e f t) (.inl fun q => by rw [hF b q] at e; cases e) t, fun b o e f t => by obtain ⟨sl, e'⟩ := x.frm b o e f t; obtain ⟨sl', e''⟩ := y.frm b _ e' (fun q => by rw [hF b q] at e; cases e) t; exact ⟨sl', e''⟩, fun k b g => y.tab k b (x.tab k b g), Nat.le_trans x.size y.size⟩
/-- what is said of a value: the F are the addresses it may not lean on -/
structure Pd (B : Bs) where
  p : (Addr → Prop) → Heap → Value → Prop
  mono : ∀ {F h h' v}, p F h v → Pres B F h h' → p F h' v
  weak : ∀ {F F' h v}, p F h v → (∀ b, F' b → F b ∨ h.get? b = none) → p F' h v
inductive D where
  | none
  | bool (b : Bool)
  | int (i : Int)
  | str (s : Str)
  | tup (l : List D)
  | lst (l : List D)
/-- a list or tuple as it lies -/
noncomputable def IsSeq (h : Heap) (T : String) (a : Addr) (vs : List Value) : Prop := ∃ n, h.get? a = some { cls := .type T, data := .seq vs.toArray n }
mutual
noncomputable def rep (F : Addr → Prop) (h : Heap) : Value → D → Prop
  | v, .none => v = .none
  | v, .bool b => v = .bool b
  | v, .int i => ∃ t, v = .int i t
  | v, .str s => ∃ t, v = .str s t
  | v, .tup l => ∃ a vs, v = .ref a ∧ ¬ F a ∧ IsSeq h "tuple" a vs ∧ reps F h vs l
  | v, .lst l => ∃ a vs, v = .ref a ∧ ¬ F a ∧ IsSeq h "list" a vs ∧ reps F h vs l
noncomputable def reps (F : Addr → Prop) (h : Heap) : List Value → List D → Prop
  | [], [] => True
  | v :: vs, d :: ds => rep F h v d ∧ reps F h vs ds
  | _, _ => False
end
theorem IsSeq.pres {B : Bs} {F : Addr → Prop} {h h' : Heap} {T : String} {a : Addr} {vs : List Value} (x : IsSeq h T a vs) (hF : ¬ F a) (p : Pres B F h h') : IsSeq h' T a vs :=
  let ⟨n, e⟩ := x; ⟨n, p.obj _ _ e (.inl hF) (.inl rfl)⟩
theorem ns_pres {B : Bs} {F : Addr → Prop} {h h' : Heap} {L : Addr} {m : Str → Option Value} (x : h.Ns L m) (hF : ¬ F L) (p : Pres B F h h') : h'.Ns L m := by
  obtain ⟨o, es, ep, e, hd, r⟩ := x
  obtain ⟨sl, e'⟩ := p.data e hF fun vs q => by rw [hd] at q; cases q
  exact ⟨_, es, ep, e', hd, r⟩
theorem cell_pres {B : Bs} {F : Addr → Prop} {h h' : Heap} {c : Addr} {v : Option Value} (x : h.IsCell c v) (hF : ¬ F c) (p : Pres B F h h') : h'.IsCell c v := by
  obtain ⟨o, e, hd⟩ := x
  obtain ⟨sl, e'⟩ := p.data e hF fun vs q => by rw [hd] at q; cases q
  exact ⟨_, e', hd⟩
mutual
theorem rep.mono {B : Bs} {F : Addr → Prop} {h h' : Heap} (p : Pres B F h h') : ∀ {v : Value} {d : D}, rep F h v d → rep F h' v d
  | _, .none, x => by simpa only [rep] using x
  | _, .bool _, x => by simpa only [rep] using x
  | _, .int _, x => by simpa only [rep] using x
  | _, .str _, x => by simpa only [rep] using x
  | _, .tup l, x => by
    simp only [rep] at x ⊢
    obtain ⟨a, vs, e, f, i, r⟩ := x
    exact ⟨a, vs, e, f, i.pres f p, reps.mono p r⟩
  | _, .lst l, x => by
    simp only [rep] at x ⊢
    obtain ⟨a, vs, e, f, i, r⟩ := x
    exact ⟨a, vs, e, f, i.pres f p, reps.mono p r⟩
theorem reps.mono {B : Bs} {F : Addr → Prop} {h h' : Heap} (p : Pres B F h h') : ∀ {vs : List Value} {ds : List D}, reps F h vs ds → reps F h' vs ds
  | [], [], x => by simp only [reps]
  | v :: vs, d :: ds, x => by simp only [reps] at x ⊢; exact ⟨rep.mono p x.1, reps.mono p x.2⟩
  | [], _ :: _, x => by simp [reps] at x
  | _ :: _, [], x => by simp [reps] at x
end
mutual
theorem rep.weak {F F' : Addr → Prop} {h : Heap} (hF : ∀ b, F' b → F b ∨ h.get? b = none) : ∀ {v : Value} {d : D}, rep F h v d → rep F' h v d
  | _, .none, x => by simpa only [rep] using x
  | _, .bool _, x => by simpa only [rep] using x
  | _, .int _, x => by simpa only [rep] using x
  | _, .str _, x => by simpa only [rep] using x
  | _, .tup l, x => by
    simp only [rep] at x ⊢
    obtain ⟨a, vs, e, f, ⟨n, i⟩, r⟩ := x
    exact ⟨a, vs, e, fun q => (hF a q).elim f (fun z => by rw [z] at i; cases i), ⟨n, i⟩, reps.weak hF r⟩
  | _, .lst l, x => by
    simp only [rep] at x ⊢
    obtain ⟨a, vs, e, f, ⟨n, i⟩, r⟩ := x
    exact ⟨a, vs, e, fun q => (hF a q).elim f (fun z => by rw [z] at i; cases i), ⟨n, i⟩, reps.weak hF r⟩
theorem reps.weak {F F' : Addr → Prop} {h : Heap} (hF : ∀ b, F' b → F b ∨ h.get? b = none) : ∀ {vs : List Value} {ds : List D}, reps F h vs ds → reps F' h vs ds
  | [], [], x => by simp only [reps]
  | v :: vs, d :: ds, x => by simp only [reps] at x ⊢; exact ⟨rep.weak hF x.1, reps.weak hF x.2⟩
  | [], _ :: _, x => by simp [reps] at x
  | _ :: _, [], x => by simp [reps] at x
end
noncomputable def pd {B : Bs} (d : D) : Pd B := ⟨fun F h v => rep F h v d, fun x p => x.mono p, fun x hF => x.weak hF⟩
/-- this very value, which leans on nothing -/
noncomputable def pv {B : Bs} (v : Value) : Pd B := ⟨fun _ _ u => u = v, fun x _ => x, fun x _ => x⟩
noncomputable abbrev pint {B : Bs} (i : Int) : Pd B := pd (.int i)
noncomputable abbrev pstr {B : Bs} (s : Str) : Pd B := pd (.str s)
noncomputable abbrev pbool {B : Bs} (b : Bool) : Pd B := pd (.bool b)
noncomputable abbrev pnone {B : Bs} : Pd B := pd .none
noncomputable def all2 {B : Bs} (F : Addr → Prop) (h : Heap) : List (Pd B) → List Value → Prop
  | [], [] => True
  | P :: Ps, v :: vs => P.p F h v ∧ all2 F h Ps vs
  | _, _ => False
theorem all2.mono {B : Bs} {F : Addr → Prop} {h h' : Heap} (p : Pres B F h h') : ∀ {Ps : List (Pd B)} {vs : List Value}, all2 F h Ps vs → all2 F h' Ps vs
  | [], [], _ => trivial
  | P :: _, _ :: _, x => ⟨P.mono x.1 p, all2.mono p x.2⟩
  | [], _ :: _, x => x.elim
  | _ :: _, [], x => x.elim
theorem all2.weak {B : Bs} {F F' : Addr → Prop} {h : Heap} (hF : ∀ b, F' b → F b ∨ h.get? b = none) : ∀ {Ps : List (Pd B)} {vs : List Value}, all2 F h Ps vs → all2 F' h Ps vs
  | [], [], _ => trivial
  | P :: _, _ :: _, x => ⟨P.weak x.1 hF, all2.weak hF x.2⟩
  | [], _ :: _, x => x.elim
  | _ :: _, [], x => x.elim
theorem all2.length {B : Bs} {F : Addr → Prop} {h : Heap} : ∀ {Ps : List (Pd B)} {vs : List Value}, all2 F h Ps vs → vs.length = Ps.length
  | [], [], _ => rfl
  | _ :: _, _ :: _, x => congrArg (· + 1) (all2.length x.2)
  | [], _ :: _, x => x.elim
  | _ :: _, [], x => x.elim
theorem all2.get {B : Bs} {F : Addr → Prop} {h : Heap} : ∀ {Ps : List (Pd B)} {vs : List Value}, all2 F h Ps vs → ∀ {i : Nat} {P : Pd B}, Ps[i]? = some P → ∃ v, vs[i]? = some v ∧ P.p F h v
  | P :: _, v :: _, x, 0, _, e => by cases e; exact ⟨v, rfl, x.1⟩
  | _ :: _, _ :: _, x, i + 1, _, e => by simpa using all2.get x.2 (i := i) (by simpa using e)
  | [], [], _, _, _, e => by simp at e
  | [], _ :: _, x, _, _, _ => x.elim
  | _ :: _, [], x, _, _, _ => x.elim
theorem all2.append {B : Bs} {F : Addr → Prop} {h : Heap} : ∀ {Ps : List (Pd B)} {vs : List Value} {Ps' : List (Pd B)} {vs' : List Value}, all2 F h Ps vs → all2 F h Ps' vs' → all2 F h (Ps ++ Ps') (vs ++ vs')
  | [], [], _, _, _, y => y
  | _ :: _, _ :: _, _, _, x, y => ⟨x.1, all2.append x.2 y⟩
  | [], _ :: _, _, _, x, _ => x.elim
  | _ :: _, [], _, _, x, _ => x.elim
theorem all2.pds {B : Bs} {F : Addr → Prop} {h : Heap} : ∀ {ds : List D} {vs : List Value}, all2 (B := B) F h (ds.map pd) vs ↔ reps F h vs ds
  | [], [] => by simp [all2, reps]
  | _ :: ds, _ :: vs => by simp only [List.map_cons, all2, reps, all2.pds (ds := ds) (vs := vs)]; rfl
  | [], _ :: _ => by simp [all2, reps]
  | _ :: _, [] => by simp [all2, reps]
/-- the text's own things stand -/
structure Base (B : Bs) (h : Heap) : Prop where
  keep : ∀ b o, B.hb.get? b = some o → h.get? b = some o
  tab : GoodTab B h 1 B.P0
  size : B.N0 ≤ h.objs.size
theorem Base.pres {B : Bs} {h h' : Heap} (x : Base B h) (p : Pres B none' h h') : Base B h' where
  keep := fun b o e => p.obj b o (x.keep b o e) (.inl fun q => q) (.inr fun q => by
    rcases q with rfl | q
    · rw [B.hP0] at e; cases e
    · exact absurd (Heap.lt_size e) (Nat.not_lt.mpr (Nat.le_trans B.hN0 q)))
  tab := p.tab _ _ x.tab
  size := Nat.le_trans x.size p.size
structure Cx (B : Bs) where
  A : Around
  env : Env
  h₀ : Heap
  stor : Str → Bool := fun _ => true
noncomputable abbrev Rho (B : Bs) := Str → Option (Pd B)
noncomputable abbrev Mu (B : Bs) := Addr → Option (List (Pd B))
/-- the frames on the stack: their objects stand, or are the frame at hand -/
noncomputable def StkC {B : Bs} (C : Cx B) : Prop := ∃ l, C.A.frames = some l ∧ ∀ env ∈ l, env.scope.kind = .function ∧ ∃ L, env.frame = some L ∧ B.N0 ≤ L ∧ (L = C.env.locals ∨ ∃ o es n, C.h₀.get? L = some o ∧ o.data = .dict es n)
/-- the frames on the stack stand -/
noncomputable def Stk (B : Bs) (A : Around) (h : Heap) : Prop := ∃ l, A.frames = some l ∧ ∀ env ∈ l, env.scope.kind = .function ∧ ∃ L, env.frame = some L ∧ B.N0 ≤ L ∧ ∃ o es n, h.get? L = some o ∧ o.data = .dict es n
structure Frm {B : Bs} (C : Cx B) (F : Addr → Prop) (h : Heap) (ρ : Rho B) (μ : Mu B) : Prop where
  base : Base B C.h₀
  pres : Pres B none' C.h₀ h
  kind : C.env.scope.kind = .function
  glob : C.env.globals = mainGlobals
  blt : C.env.builtins = builtinsNs
  fl : F C.env.locals
  lt : ∀ b, F b → b < h.objs.size
  fresh : C.h₀.get? C.env.locals = none
  stk : StkC C
  loc : ∃ m, h.Ns C.env.locals m ∧ ∀ x P, ρ x = some P → C.env.kindOf x = some .local → ∃ v, m x = some v ∧ P.p F h v
  cel : ∀ x P, ρ x = some P → (C.env.kindOf x = some .cell ∨ C.env.kindOf x = some .free) → ∃ c v, C.env.cells.lookup x = some c ∧ h.IsCell c (some v) ∧ P.p F h v
  kinds : ∀ x P, ρ x = some P → C.env.kindOf x = some .local ∨ C.env.kindOf x = some .cell ∨ C.env.kindOf x = some .free
  own : ∀ x, C.stor x = true → C.env.kindOf x = some .cell → ∃ c v, C.env.cells.lookup x = some c ∧ F c ∧ C.h₀.objs.size ≤ c ∧ h.IsCell c v
  inj : ∀ x y c, C.env.cells.lookup x = some c → C.env.cells.lookup y = some c → x = y
  lst : ∀ a Ps, μ a = some Ps → F a ∧ C.h₀.objs.size ≤ a ∧ ∃ vs, IsSeq h "list" a vs ∧ all2 F h Ps vs
theorem Frm.step {B : Bs} {C : Cx B} {F : Addr → Prop} {h h' : Heap} {ρ : Rho B} {μ : Mu B} (f : Frm C F h ρ μ) (p : Pres B none' h h') : Frm C F h' ρ μ where
  base := f.base
  pres := f.pres.trans p
  kind := f.kind
  glob := f.glob
  blt := f.blt
  fl := f.fl
  lt := fun b q => Nat.lt_of_lt_of_le (f.lt b q) p.size
  fresh := f.fresh
  stk := f.stk
  loc := by
    obtain ⟨m, hn, hm⟩ := f.loc
    exact ⟨m, ns_pres hn (fun q => q) p, fun x P q k => let ⟨v, a, b⟩ := hm x P q k; ⟨v, a, P.mono b p.any⟩⟩
  cel := fun x P q k => let ⟨c, v, a, e, b⟩ := f.cel x P q k; ⟨c, v, a, cell_pres e (fun q => q) p, P.mono b p.any⟩
  kinds := f.kinds
  own := fun x q k => let ⟨c, v, a, b, d, e⟩ := f.own x q k; ⟨c, v, a, b, d, cell_pres e (fun q => q) p⟩
  inj := f.inj
  lst := fun a Ps q => let ⟨x, y, vs, z, w⟩ := f.lst a Ps q; ⟨x, y, vs, z.pres (F := none') (fun q => q) p, w.mono p.any⟩
/-- a step on which the F may win what is new -/
theorem Frm.grow {B : Bs} {C : Cx B} {F F' : Addr → Prop} {h h' : Heap} {ρ : Rho B} {μ : Mu B} (f : Frm C F h ρ μ) (p : Pres B none' h h') (hF : ∀ b, F' b → F b ∨ h.get? b = none) (hF' : ∀ b, F b → F' b) (hlt : ∀ b, F' b → b < h'.objs.size) : Frm C F' h' ρ μ where
  base := f.base
  pres := f.pres.trans p
  kind := f.kind
  glob := f.glob
  blt := f.blt
  fl := hF' _ f.fl
  lt := hlt
  fresh := f.fresh
  stk := f.stk
  loc := by
    obtain ⟨m, hn, hm⟩ := f.loc
    exact ⟨m, ns_pres hn (fun q => q) p, fun x P q k => let ⟨v, a, b⟩ := hm x P q k; ⟨v, a, P.mono (P.weak b hF) p.any⟩⟩
  cel := fun x P q k => let ⟨c, v, a, e, b⟩ := f.cel x P q k; ⟨c, v, a, cell_pres e (fun q => q) p, P.mono (P.weak b hF) p.any⟩
  kinds := f.kinds
  own := fun x q k => let ⟨c, v, a, b, d, e⟩ := f.own x q k; ⟨c, v, a, hF' _ b, d, cell_pres e (fun q => q) p⟩
  inj := f.inj
  lst := fun a Ps q => let ⟨x, y, vs, z, w⟩ := f.lst a Ps q; ⟨hF' _ x, y, vs, z.pres (F := none') (fun q => q) p, (w.weak hF).mono p.any⟩
theorem Frm.stack {B : Bs} {C : Cx B} {F : Addr → Prop} {h : Heap} {ρ : Rho B} {μ : Mu B} (f : Frm C F h ρ μ) : Stk B C.A h := by
  obtain ⟨l, e, hl⟩ := f.stk
  refine ⟨l, e, fun env he => ?_⟩
  obtain ⟨hk, L, hf, hn, hL⟩ := hl env he
  refine ⟨hk, L, hf, hn, ?_⟩
  rcases hL with rfl | ⟨o, es, n, ho, hd⟩
  · obtain ⟨m, ⟨o, es, ep, eo, hd, _⟩, _⟩ := f.loc
    exact ⟨o, es, ep, eo, hd⟩
  · obtain ⟨sl, e'⟩ := f.pres.data ho (fun q => q) fun vs q => by rw [hd] at q; cases q
    exact ⟨_, es, n, e', hd⟩
theorem Stk.pres {B : Bs} {A : Around} {h h' : Heap} (x : Stk B A h) (p : Pres B none' h h') : Stk B A h' := by
  obtain ⟨l, e, hl⟩ := x
  refine ⟨l, e, fun env he => ?_⟩
  obtain ⟨hk, L, hf, hn, o, es, n, ho, hd⟩ := hl env he
  obtain ⟨sl, e'⟩ := p.data ho (fun q => q) fun vs q => by rw [hd] at q; cases q
  exact ⟨hk, L, hf, hn, _, es, n, e', hd⟩
structure Rest (s s' : Shared) : Prop where
  gens : s'.gens = s.gens
  os : s'.os = s.os
  drawn : s'.drawn = s.drawn
theorem Rest.refl {s : Shared} : Rest s s := ⟨rfl, rfl, rfl⟩
theorem Rest.trans {s s' s'' : Shared} (x : Rest s s') (y : Rest s' s'') : Rest s s'' := ⟨y.1.trans x.1, y.2.trans x.2, y.3.trans x.3⟩
structure Stp (B : Bs) (s s' : Shared) : Prop where
  p : Pres B none' s.heap s'.heap
  r : Rest s s'
theorem Stp.refl {B : Bs} {s : Shared} : Stp B s s := ⟨.refl, .refl⟩
theorem Stp.trans {B : Bs} {s s' s'' : Shared} (x : Stp B s s') (y : Stp B s' s'') : Stp B s s'' := ⟨x.p.trans y.p, x.r.trans y.r⟩
theorem Stp.toks {B : Bs} {s : Shared} {n : Nat} : Stp B s { s with toks := n } := ⟨.refl, ⟨rfl, rfl, rfl⟩⟩
theorem Stp.push {B : Bs} {s : Shared} (o : Obj) : Stp B s { s with heap := s.heap.push o } := ⟨.push o, ⟨rfl, rfl, rfl⟩⟩
noncomputable abbrev md (B : Bs) : Model := model B.prog B.w
noncomputable abbrev noE : Value → Shared → Prop := fun _ _ => False
noncomputable def Ev {B : Bs} (C : Cx B) (ρ : Rho B) (μ : Mu B) (e : Expr) (P : Pd B) : Prop :=
  ∀ F s, Frm C F s.heap ρ μ → wpAny (md B) C.A (eval e C.env) (fun v s' => Stp B s s' ∧ P.p F s'.heap v) noE s
noncomputable def EvT {B : Bs} (C : Cx B) (ρ : Rho B) (μ : Mu B) (e : Expr) (b : Bool) : Prop :=
  ∀ F s, Frm C F s.heap ρ μ → wpAny (md B) C.A (isTrue e C.env (eval e C.env)) (fun v s' => Stp B s s' ∧ v = b) noE s
noncomputable def EvL {B : Bs} (C : Cx B) (ρ : Rho B) (μ : Mu B) (es : List Expr) (Ps : List (Pd B)) : Prop :=
  ∀ F s pos, Frm C F s.heap ρ μ → wpAny (md B) C.A (spliced (backTo pos (starEach es C.env))) (fun vs s' => Stp B s s' ∧ all2 F s'.heap Ps vs) noE s
inductive Out (B : Bs) where
  | next (ρ : Rho B) (μ : Mu B)
  | brk (ρ : Rho B) (μ : Mu B)
  | cont (ρ : Rho B) (μ : Mu B)
  | ret (P : Pd B)
noncomputable def low (F : Addr → Prop) (n : Nat) : Addr → Prop := fun b => F b ∧ b < n
/-- what a frame's code may change -/
noncomputable def Mut {B : Bs} (C : Cx B) (μ : Mu B) : Addr → Prop := fun b => b = C.env.locals ∨ (∃ x, C.stor x = true ∧ C.env.kindOf x = some .cell ∧ C.env.cells.lookup x = some b) ∨ (μ b).isSome = true
theorem Frm.mutF {B : Bs} {C : Cx B} {F : Addr → Prop} {h : Heap} {ρ : Rho B} {μ : Mu B} (f : Frm C F h ρ μ) {b : Addr} (q : Mut C μ b) : F b := by
  rcases q with rfl | ⟨x, h1, h2, h3⟩ | q
  · exact f.fl
  · obtain ⟨c, v, hl, hF, _⟩ := f.own x h1 h2; rw [h3] at hl; cases hl; exact hF
  · obtain ⟨Ps, e⟩ := Option.isSome_iff_exists.mp q; exact (f.lst b Ps e).1
/-- on to the next statement, from μ and h: the F may grow, by what is new -/
structure Nxt {B : Bs} (C : Cx B) (F : Addr → Prop) (μ : Mu B) (h : Heap) (ρ' : Rho B) (μ' : Mu B) (h' : Heap) (F' : Addr → Prop) : Prop where
  up : ∀ b, F b → F' b
  new : ∀ b, F' b → F b ∨ h.objs.size ≤ b
  frm : Frm C F' h' ρ' μ'
  dom : ∀ b, (μ' b).isSome = true → (μ b).isSome = true ∨ h.objs.size ≤ b
noncomputable def OutM {B : Bs} (C : Cx B) (F : Addr → Prop) (μ : Mu B) (h : Heap) (o : Out B) (f : Flow) (h' : Heap) : Prop := match o, f with
  | .next ρ' μ', .next => ∃ F', Nxt C F μ h ρ' μ' h' F'
  | .brk ρ' μ', .brk => ∃ F', Nxt C F μ h ρ' μ' h' F'
  | .cont ρ' μ', .cont => ∃ F', Nxt C F μ h ρ' μ' h' F'
  | .ret P, .ret v => Pres B none' C.h₀ h' ∧ P.p (low F C.h₀.objs.size) h' v
  | _, _ => False
noncomputable def OutOk {B : Bs} (C : Cx B) (F : Addr → Prop) (μ : Mu B) (h : Heap) (o : Out B) (f : Flow) (h' : Heap) : Prop := Pres B (Mut C μ) h h' ∧ OutM C F μ h o f h'
theorem Mut.back {B : Bs} {C : Cx B} {μ μ' : Mu B} {h : Heap} {b : Addr} {o : Obj} (d : ∀ b, (μ' b).isSome = true → (μ b).isSome = true ∨ h.objs.size ≤ b) (e : h.get? b = some o) (q : Mut C μ' b) : Mut C μ b := by
  rcases q with q | q | q
  · exact .inl q
  · exact .inr (.inl q)
  · rcases d b q with q | q
    · exact .inr (.inr q)
    · exact absurd (Heap.lt_size e) (Nat.not_lt.mpr q)
theorem Pres.mut {B : Bs} {C : Cx B} {μ μ' : Mu B} {h h₁ h₂ : Heap} (d : ∀ b, (μ' b).isSome = true → (μ b).isSome = true ∨ h.objs.size ≤ b) (x : Pres B (Mut C μ) h h₁) (y : Pres B (Mut C μ') h₁ h₂) : Pres B (Mut C μ) h h₂ :=
  ⟨fun b o e f t => y.obj b o (x.obj b o e f t) (f.imp (fun n q => n (q.back d e)) id) t, fun b o e f t => by obtain ⟨sl, e'⟩ := x.frm b o e f t; obtain ⟨sl', e''⟩ := y.frm b _ e' (fun q => f (q.back d e)) t; exact ⟨sl', e''⟩, fun k b g => y.tab k b (x.tab k b g), Nat.le_trans x.size y.size⟩
theorem Nxt.outM {B : Bs} {C : Cx B} {F F' : Addr → Prop} {μ μ₁ : Mu B} {ρ₁ : Rho B} {h h₁ h₂ : Heap} {o : Out B} {f : Flow} (hs : h.objs.size ≤ h₁.objs.size) (n : Nxt C F μ h ρ₁ μ₁ h₁ F') (x : OutM C F' μ₁ h₁ o f h₂) : OutM C F μ h o f h₂ := by
  have key : ∀ {ρ' : Rho B} {μ' : Mu B}, (∃ F'', Nxt C F' μ₁ h₁ ρ' μ' h₂ F'') → ∃ F'', Nxt C F μ h ρ' μ' h₂ F'' := fun ⟨F'', y⟩ => ⟨F'', fun b q => y.up b (n.up b q), fun b q => (y.new b q).elim (n.new b) fun q => .inr (Nat.le_trans hs q), y.frm, fun b q =>
    (y.dom b q).elim (n.dom b) fun q => .inr (Nat.le_trans hs q)⟩
  cases o <;> cases f <;> first
    | exact x.elim
    | exact key x
    | exact ⟨x.1, Pd.weak _ x.2 fun b q => .inl ⟨n.up b q.1, q.2⟩⟩
theorem Nxt.out {B : Bs} {C : Cx B} {F F' : Addr → Prop} {μ μ₁ : Mu B} {ρ₁ : Rho B} {h h₁ h₂ : Heap} {o : Out B} {f : Flow} (p : Pres B (Mut C μ) h h₁) (n : Nxt C F μ h ρ₁ μ₁ h₁ F') (x : OutOk C F' μ₁ h₁ o f h₂) : OutOk C F μ h o f h₂ :=
  ⟨p.mut n.dom x.1, n.outM p.size x.2⟩
noncomputable def Ex {B : Bs} (C : Cx B) (ρ : Rho B) (μ : Mu B) (sts : List Stmt) (o : Out B) : Prop :=
  ∀ F s, Frm C F s.heap ρ μ → wpAny (md B) C.A (execs sts C.env) (fun f s' => Rest s s' ∧ OutOk C F μ s.heap o f s'.heap) noE s
noncomputable def Ex1 {B : Bs} (C : Cx B) (ρ : Rho B) (μ : Mu B) (st : Stmt) (o : Out B) : Prop :=
  ∀ F s, Frm C F s.heap ρ μ → wpAny (md B) C.A (exec st C.env) (fun f s' => Rest s s' ∧ OutOk C F μ s.heap o f s'.heap) noE s
end Mine
set_option genSizeOf true
open PySem PySem.W PyProof.Rows
set_option Elab.async false
set_option maxRecDepth 100000
set_option linter.unusedVariables false
namespace Mine
variable {B : Bs} {C : Cx B} {ρ : Rho B} {μ : Mu B}
theorem wpMono {α : Type} {M : Model} {A : Around} {t : Sem α} {Q Q' : α → Shared → Prop} {s : Shared} {E : Value → Shared → Prop} (h : wpAny M A t Q noE s) (hQ : ∀ a s, Q a s → Q' a s) : wpAny M A t Q' E s :=
  wpAny_mono h hQ fun _ _ x => x.elim
theorem Frm.h {F : Addr → Prop} {h : Heap} (f : Frm C F h ρ μ) : Base B h := f.base.pres f.pres
theorem Frm.ns {F : Addr → Prop} {h : Heap} (f : Frm C F h ρ μ) : h.Ns mainGlobals B.mg := B.g.keeps f.h.keep
theorem Frm.nsb {F : Addr → Prop} {h : Heap} (f : Frm C F h ρ μ) : h.Ns builtinsNs B.mb := B.b.keeps f.h.keep
theorem Ev.name {x : Str} {pos : Pos} {P : Pd B} (hx : ρ x = some P) (hd : (x == ("__debug__" : Str)) = false := by decide) (hc : (x == ("__classdict__" : Str)) = false := by decide) : Ev C ρ μ (.Name x pos) P := by
  intro F s f
  rcases f.kinds x P hx with k | k | k
  · obtain ⟨m, hn, hm⟩ := f.loc
    obtain ⟨v, hv, hp⟩ := hm x P hx k
    exact wpAny_Name (wpAny_loadName_local f.kind k hn hv ⟨.refl, hp⟩) hd
  · obtain ⟨c, v, hl, hv, hp⟩ := f.cel x P hx (.inl k)
    exact wpAny_Name (wpAny_loadName_cell f.kind k hl hv ⟨.refl, hp⟩) hd
  · obtain ⟨c, v, hl, hv, hp⟩ := f.cel x P hx (.inr k)
    exact wpAny_Name (wpAny_loadName_free f.kind k hl hv ⟨.refl, hp⟩ hc) hd
theorem Ev.glob {x : Str} {pos : Pos} {v : Value} (hk : C.env.kindOf x = some .globalImplicit) (hv : B.mg x = some v) (hd : (x == ("__debug__" : Str)) = false := by decide) : Ev C ρ μ (.Name x pos) (pv v) := by
  intro F s f
  refine wpAny_Name ?_ hd
  rw [loadName_read f.kind hk]
  exact PySem.Calls.loadGlobal_global (by rw [f.glob]; exact f.ns) hv ⟨.refl, rfl⟩
theorem Ev.blt {x : Str} {pos : Pos} {v : Value} (hk : C.env.kindOf x = some .globalImplicit) (hm : B.mg x = none) (hv : B.mb x = some v) (hd : (x == ("__debug__" : Str)) = false := by decide) : Ev C ρ μ (.Name x pos) (pv v) := by
  intro F s f
  refine wpAny_Name ?_ hd
  rw [loadName_read f.kind hk]
  exact PySem.Calls.loadGlobal_builtin (by rw [f.glob]; exact f.ns) hm (by rw [f.blt]; exact f.nsb) hv ⟨.refl, rfl⟩
theorem Ev.int {i : Int} {k pos} : Ev C ρ μ (.Constant (.int i) k pos) (pint i) := fun _ _ _ => wpAny_Constant_int ⟨.toks, by simp [pd, rep]⟩
theorem Ev.str {x : Str} {k pos} : Ev C ρ μ (.Constant (.str x) k pos) (pstr x) := fun _ _ _ => wpAny_Constant_str ⟨.toks, by simp [pd, rep]⟩
theorem Ev.bool {b : Bool} {k pos} : Ev C ρ μ (.Constant (.bool b) k pos) (pbool b) := fun _ _ _ => wpAny_Constant_bool ⟨.refl, by simp [pd, rep]⟩
theorem Ev.none {k pos} : Ev C ρ μ (.Constant .none k pos) pnone := fun _ _ _ => wpAny_Constant_none ⟨.refl, by simp [pd, rep]⟩
/-- two operands, then an operation of their values -/
theorem Ev.bin {l r : Expr} {op : Operator} {pos : Pos} {P Q R : Pd B} (hl : Ev C ρ μ l P) (hr : Ev C ρ μ r Q)
    (h : ∀ F s a b, Frm C F s.heap ρ μ → P.p F s.heap a → Q.p F s.heap b → wpAny (md B) C.A (binaryOp op a b) (fun v s' => Stp B s s' ∧ R.p F s'.heap v) noE s) : Ev C ρ μ (.BinOp l op r pos) R := by
  intro F s f
  refine wpAny_BinOp (wpMono (hl F s f) fun a s₁ ⟨p₁, h₁⟩ => wpMono (hr F s₁ (f.step p₁.p)) fun b s₂ ⟨p₂, h₂⟩ => ?_)
  exact wpMono (h F s₂ a b ((f.step p₁.p).step p₂.p) (P.mono h₁ p₂.p.any) h₂) fun v s₃ ⟨p₃, h₃⟩ => ⟨(p₁.trans p₂).trans p₃, h₃⟩
theorem int_of {F : Addr → Prop} {h : Heap} {i : Int} {v : Value} (x : (pint (B := B) i).p F h v) : ∃ t, v = .int i t := by simpa [pd, rep] using x
theorem str_of {F : Addr → Prop} {h : Heap} {i : Str} {v : Value} (x : (pstr (B := B) i).p F h v) : ∃ t, v = .str i t := by simpa [pd, rep] using x
theorem bool_of {F : Addr → Prop} {h : Heap} {i : Bool} {v : Value} (x : (pbool (B := B) i).p F h v) : v = .bool i := by simpa [pd, rep] using x
theorem none_of {F : Addr → Prop} {h : Heap} {v : Value} (x : (pnone (B := B)).p F h v) : v = .none := by simpa [pd, rep] using x
theorem of_int {F : Addr → Prop} {h : Heap} {i : Int} {t : Tok} : (pint (B := B) i).p F h (.int i t) := by simp [pd, rep]
theorem of_str {F : Addr → Prop} {h : Heap} {i : Str} {t : Tok} : (pstr (B := B) i).p F h (.str i t) := by simp [pd, rep]
theorem of_bool {F : Addr → Prop} {h : Heap} {i : Bool} : (pbool (B := B) i).p F h (.bool i) := by simp [pd, rep]
theorem of_none {F : Addr → Prop} {h : Heap} : (pnone (B := B)).p F h .none := by simp [pd, rep]
theorem Ev.add {l r : Expr} {pos : Pos} {i j : Int} (hl : Ev C ρ μ l (pint i)) (hr : Ev C ρ μ r (pint j)) : Ev C ρ μ (.BinOp l .Add r pos) (pint (i + j)) :=
  Ev.bin hl hr fun F s a b _ ha hb => by obtain ⟨t, rfl⟩ := int_of ha; obtain ⟨u, rfl⟩ := int_of hb; exact add_int ⟨.toks, of_int⟩
theorem Ev.sub {l r : Expr} {pos : Pos} {i j : Int} (hl : Ev C ρ μ l (pint i)) (hr : Ev C ρ μ r (pint j)) : Ev C ρ μ (.BinOp l .Sub r pos) (pint (i - j)) :=
  Ev.bin hl hr fun F s a b _ ha hb => by obtain ⟨t, rfl⟩ := int_of ha; obtain ⟨u, rfl⟩ := int_of hb; exact sub_int ⟨.toks, of_int⟩
theorem Ev.mod {l r : Expr} {pos : Pos} {i j : Int} (hl : Ev C ρ μ l (pint i)) (hr : Ev C ρ μ r (pint j)) (hj : j ≠ 0) : Ev C ρ μ (.BinOp l .Mod r pos) (pint (i.fmod j)) :=
  Ev.bin hl hr fun F s a b _ ha hb => by obtain ⟨t, rfl⟩ := int_of ha; obtain ⟨u, rfl⟩ := int_of hb; exact mod_int' hj ⟨.toks, of_int⟩
theorem Ev.fdiv {l r : Expr} {pos : Pos} {i j : Int} (hl : Ev C ρ μ l (pint i)) (hr : Ev C ρ μ r (pint j)) (hj : j ≠ 0) (hs : j.natAbs < 2 ^ 64) : Ev C ρ μ (.BinOp l .FloorDiv r pos) (pint (i.fdiv j)) :=
  Ev.bin hl hr fun F s a b _ ha hb => by
    obtain ⟨t, rfl⟩ := int_of ha; obtain ⟨u, rfl⟩ := int_of hb
    refine floordiv_int hj ⟨.toks, of_int⟩ (.inl ?_)
    unfold Builtin.divisionGoesByPylong
    have : (if (j == 0) = true then 0 else j.natAbs.log2 / 30 + 1) ≤ 300 := by
      split
      · lia
      · have h2 : j.natAbs.log2 < 64 := (Nat.log2_lt (by lia)).mpr hs
        lia
    simp only [Bool.and_eq_false_iff, decide_eq_false_iff_not]
    left; lia
theorem Ev.mul {l r : Expr} {pos : Pos} {i j : Int} (hl : Ev C ρ μ l (pint i)) (hr : Ev C ρ μ r (pint j)) (hm : IntMulOk i j) : Ev C ρ μ (.BinOp l .Mult r pos) (pint (i * j)) :=
  Ev.bin hl hr fun F s a b _ ha hb => by obtain ⟨t, rfl⟩ := int_of ha; obtain ⟨u, rfl⟩ := int_of hb; exact mul_int ⟨.toks, of_int⟩ hm
theorem Ev.cat {l r : Expr} {pos : Pos} {i j : Str} (hl : Ev C ρ μ l (pstr i)) (hr : Ev C ρ μ r (pstr j)) (hs : i.length + j.length ≤ sizeLine) : Ev C ρ μ (.BinOp l .Add r pos) (pstr (i ++ j)) :=
  Ev.bin hl hr fun F s a b _ ha hb => by obtain ⟨t, rfl⟩ := str_of ha; obtain ⟨u, rfl⟩ := str_of hb; exact add_str (fun _ _ => ⟨.toks, of_str⟩) hs
theorem Ev.neg {e : Expr} {pos : Pos} {i : Int} (h : Ev C ρ μ e (pint i)) : Ev C ρ μ (.UnaryOp .USub e pos) (pint (-i)) := fun F s f =>
  wpAny_UnaryOp (wpMono (h F s f) fun a s₁ ⟨p₁, h₁⟩ => by obtain ⟨t, rfl⟩ := int_of h₁; exact P.neg_int ⟨p₁.trans .toks, of_int⟩)
/-- comparisons -/
theorem Ev.cmp {l r : Expr} {op : CmpOp} {pos : Pos} {P Q R : Pd B} (hl : Ev C ρ μ l P) (hr : Ev C ρ μ r Q)
    (h : ∀ F s a b, Frm C F s.heap ρ μ → P.p F s.heap a → Q.p F s.heap b → wpAny (md B) C.A (compareOp op a b) (fun v s' => Stp B s s' ∧ R.p F s'.heap v) noE s)
    (hm : behindInMarks op r = false := by with_unfolding_all rfl) : Ev C ρ μ (.Compare l [op] [r] pos) R := by
  intro F s f
  refine wpAny_Compare1 (wpMono (hl F s f) fun a s₁ ⟨p₁, h₁⟩ => wpMono (hr F s₁ (f.step p₁.p)) fun b s₂ ⟨p₂, h₂⟩ => ?_) hm
  exact wpMono (h F s₂ a b ((f.step p₁.p).step p₂.p) (P.mono h₁ p₂.p.any) h₂) fun v s₃ ⟨p₃, h₃⟩ => ⟨(p₁.trans p₂).trans p₃, h₃⟩
/-- the value of a comparison op on two ints, or two strs -/
noncomputable def cmpI : CmpOp → Int → Int → Bool
  | .Eq, a, b => a == b
  | .NotEq, a, b => a != b
  | .Lt, a, b => decide (a < b)
  | .LtE, a, b => decide (a ≤ b)
  | .Gt, a, b => decide (b < a)
  | .GtE, a, b => decide (b ≤ a)
  | _, _, _ => false
noncomputable def isOrd : CmpOp → Bool
  | .Eq | .NotEq | .Lt | .LtE | .Gt | .GtE => true
  | _ => false
theorem cmp_ints {A : Around} {i j : Int} {t u : Tok} {s : Shared} {Q : Value → Shared → Prop} {E : Value → Shared → Prop} : ∀ {op : CmpOp}, isOrd op = true → Q (.bool (cmpI op i j)) s → wpAny (md B) A (compareOp op (.int i t) (.int j u)) Q E s
  | .Eq, _, h => eq_int h
  | .NotEq, _, h => ne_int h
  | .Lt, _, h => lt_int h
  | .LtE, _, h => le_int h
  | .Gt, _, h => gt_int h
  | .GtE, _, h => ge_int h
  | .Is, ho, _ | .IsNot, ho, _ | .In, ho, _ | .NotIn, ho, _ => nomatch ho
theorem Ev.icmp {l r : Expr} {op : CmpOp} {pos : Pos} {i j : Int} (hl : Ev C ρ μ l (pint i)) (hr : Ev C ρ μ r (pint j)) (ho : isOrd op = true := by rfl)
    (hm : behindInMarks op r = false := by with_unfolding_all rfl) : Ev C ρ μ (.Compare l [op] [r] pos) (pbool (cmpI op i j)) :=
  Ev.cmp hl hr (fun F s a b _ ha hb => by obtain ⟨t, rfl⟩ := int_of ha; obtain ⟨u, rfl⟩ := int_of hb; exact cmp_ints ho ⟨.refl, of_bool⟩) hm
theorem Ev.seq {l r : Expr} {pos : Pos} {i j : Str} (hl : Ev C ρ μ l (pstr i)) (hr : Ev C ρ μ r (pstr j)) (hm : behindInMarks .Eq r = false := by with_unfolding_all rfl) : Ev C ρ μ (.Compare l [.Eq] [r] pos) (pbool (i == j)) :=
  Ev.cmp hl hr (fun F s a b _ ha hb => by obtain ⟨t, rfl⟩ := str_of ha; obtain ⟨u, rfl⟩ := str_of hb; exact eq_str ⟨.refl, of_bool⟩) hm
theorem Ev.sne {l r : Expr} {pos : Pos} {i j : Str} (hl : Ev C ρ μ l (pstr i)) (hr : Ev C ρ μ r (pstr j)) (hm : behindInMarks .NotEq r = false := by with_unfolding_all rfl) : Ev C ρ μ (.Compare l [.NotEq] [r] pos) (pbool (i != j)) :=
  Ev.cmp hl hr (fun F s a b _ ha hb => by obtain ⟨t, rfl⟩ := str_of ha; obtain ⟨u, rfl⟩ := str_of hb; exact ne_str ⟨.refl, of_bool⟩) hm
/-- tests -/
theorem truthy_b {M : Model} {A : Around} {b : Bool} {s : Shared} {Q : Bool → Shared → Prop} {E : Value → Shared → Prop} (h : Q b s) : wpAny M A (truthy (.bool b)) Q E s := wpAny_truthy_bool h
theorem EvT.cmp {l r : Expr} {op : CmpOp} {pos : Pos} {b : Bool} (h : Ev C ρ μ (.Compare l [op] [r] pos) (pbool b)) : EvT C ρ μ (.Compare l [op] [r] pos) b := by
  intro F s f
  have key : isTrue (.Compare l [op] [r] pos) C.env (eval (.Compare l [op] [r] pos) C.env) = (do let v ← eval (.Compare l [op] [r] pos) C.env; holding [v] (truthy v)) := by
    rw [isTrue_Compare1, eval_Compare1]; simp only [bind_assoc]
  rw [key]
  exact wpAny_bind (wpMono (h F s f) fun v s₁ ⟨p₁, h₁⟩ => wpAny_holding (by rw [bool_of h₁]; exact truthy_b ⟨p₁, rfl⟩))
theorem EvT.not {e : Expr} {pos : Pos} {b : Bool} (h : EvT C ρ μ e b) : EvT C ρ μ (.UnaryOp .Not e pos) (!b) := fun F s f =>
  wpAny_isTrue_Not (wpMono (h F s f) fun v s₁ ⟨p₁, h₁⟩ => ⟨p₁, by rw [h₁]⟩)
/-- a plain expression as a test, by its value's truth -/
theorem EvT.val {e : Expr} {b : Bool} {P : Pd B} (h : Ev C ρ μ e P) (ht : ∀ F s v, Frm C F s.heap ρ μ → P.p F s.heap v → wpAny (md B) C.A (truthy v) (fun v s' => Stp B s s' ∧ v = b) noE s)
    (he : isTrue e C.env (eval e C.env) = (do let v ← eval e C.env; standAt e.pos; holding [v] (truthy v)) := by rfl) : EvT C ρ μ e b := fun F s f =>
  wpAny_isTrue_value (wpMono (h F s f) fun v s₁ ⟨p₁, h₁⟩ => wpMono (ht F s₁ v (f.step p₁.p) h₁) fun _ s₂ ⟨p₂, h₂⟩ => ⟨p₁.trans p₂, h₂⟩) he
theorem EvT.bool {e : Expr} {b : Bool} (h : Ev C ρ μ e (pbool b)) (he : isTrue e C.env (eval e C.env) = (do let v ← eval e C.env; standAt e.pos; holding [v] (truthy v)) := by rfl) : EvT C ρ μ e b :=
  .val h (fun F s v _ h => by rw [bool_of h]; exact truthy_b ⟨.refl, rfl⟩) he
noncomputable def EvA {B : Bs} (C : Cx B) (ρ : Rho B) (μ : Mu B) (op : BoolOp) (es : List Expr) (b : Bool) : Prop :=
  ∀ F s, Frm C F s.heap ρ μ → wpAny (md B) C.A (allTrue op es C.env) (fun v s' => Stp B s s' ∧ v = b) noE s
theorem EvT.boolop {op : BoolOp} {es : List Expr} {pos : Pos} {b : Bool} (h : EvA C ρ μ op es b) : EvT C ρ μ (.BoolOp op es pos) b := fun F s f => wpAny_isTrue_BoolOp (h F s f)
theorem EvA.and_nil : EvA C ρ μ .And [] true := fun _ _ _ => wpAny_allTrue_And_nil ⟨.refl, rfl⟩
theorem EvA.or_nil : EvA C ρ μ .Or [] false := fun _ _ _ => wpAny_allTrue_Or_nil ⟨.refl, rfl⟩
theorem EvA.and_no {e : Expr} {es : List Expr} (h : EvT C ρ μ e false) : EvA C ρ μ .And (e :: es) false := fun F s f => wpAny_allTrue_And_cons (wpMono (h F s f) fun v s₁ ⟨p₁, h₁⟩ => by subst h₁; simpa using p₁)
theorem EvA.and_yes {e : Expr} {es : List Expr} {b : Bool} (h : EvT C ρ μ e true) (h' : EvA C ρ μ .And es b) : EvA C ρ μ .And (e :: es) b := fun F s f =>
  wpAny_allTrue_And_cons (wpMono (h F s f) fun v s₁ ⟨p₁, h₁⟩ => by subst h₁; exact wpMono (h' F s₁ (f.step p₁.p)) fun v s₂ ⟨p₂, h₂⟩ => ⟨p₁.trans p₂, h₂⟩)
theorem EvA.or_yes {e : Expr} {es : List Expr} (h : EvT C ρ μ e true) : EvA C ρ μ .Or (e :: es) true := fun F s f => wpAny_allTrue_Or_cons (wpMono (h F s f) fun v s₁ ⟨p₁, h₁⟩ => by subst h₁; simpa using p₁)
theorem EvA.or_no {e : Expr} {es : List Expr} {b : Bool} (h : EvT C ρ μ e false) (h' : EvA C ρ μ .Or es b) : EvA C ρ μ .Or (e :: es) b := fun F s f =>
  wpAny_allTrue_Or_cons (wpMono (h F s f) fun v s₁ ⟨p₁, h₁⟩ => by subst h₁; exact wpMono (h' F s₁ (f.step p₁.p)) fun v s₂ ⟨p₂, h₂⟩ => ⟨p₁.trans p₂, h₂⟩)
theorem Ev.ite {t a b : Expr} {pos : Pos} {c : Bool} {P : Pd B} (ht : EvT C ρ μ t c) (ha : c = true → Ev C ρ μ a P) (hb : c = false → Ev C ρ μ b P) : Ev C ρ μ (.IfExp t a b pos) P := fun F s f =>
  wpAny_IfExp (wpMono (ht F s f) fun v s₁ ⟨p₁, h₁⟩ => by
    subst h₁
    cases v with
    | true => exact wpMono (ha rfl F s₁ (f.step p₁.p)) fun v s₂ ⟨p₂, h₂⟩ => ⟨p₁.trans p₂, h₂⟩
    | false => exact wpMono (hb rfl F s₁ (f.step p₁.p)) fun v s₂ ⟨p₂, h₂⟩ => ⟨p₁.trans p₂, h₂⟩)
end Mine
open PySem PySem.W PyProof.Rows
set_option Elab.async false
set_option maxRecDepth 100000
set_option linter.unusedVariables false
namespace Mine
variable {B : Bs} {C : Cx B} {ρ : Rho B} {μ : Mu B}
noncomputable def upd (ρ : Rho B) (x : Str) (P : Pd B) : Rho B := fun y => if y = x then some P else ρ y
noncomputable def updM (μ : Mu B) (a : Addr) (Ps : List (Pd B)) : Mu B := fun y => if y = a then some Ps else μ y
theorem ns_ne_cell {h : Heap} {L c : Addr} {m : Str → Option Value} {v : Option Value} (a : h.Ns L m) (b : h.IsCell c v) : c ≠ L := by
  rintro rfl; obtain ⟨o, _, _, e, hd, _⟩ := a; obtain ⟨o', e', hd'⟩ := b; rw [e] at e'; cases e'; rw [hd] at hd'; cases hd'
theorem ns_ne_seq {h : Heap} {L c : Addr} {m : Str → Option Value} {T : String} {vs : List Value} (a : h.Ns L m) (b : IsSeq h T c vs) : c ≠ L := by
  rintro rfl; obtain ⟨o, _, _, e, hd, _⟩ := a; obtain ⟨n, e'⟩ := b; rw [e] at e'; cases e'; cases hd
theorem cell_ne_seq {h : Heap} {L c : Addr} {v : Option Value} {T : String} {vs : List Value} (a : h.IsCell L v) (b : IsSeq h T c vs) : c ≠ L := by
  rintro rfl; obtain ⟨o, e, hd⟩ := a; obtain ⟨n, e'⟩ := b; rw [e] at e'; cases e'; cases hd
theorem IsSeq.sameBut {h h' : Heap} {T : String} {a b : Addr} {vs : List Value} (x : IsSeq h T b vs) (hs : Heap.SameBut a h h') (hb : b ≠ a) : IsSeq h' T b vs := let ⟨n, e⟩ := x; ⟨n, (hs.2 b hb).trans e⟩
theorem cell_sameBut {h h' : Heap} {a b : Addr} {v : Option Value} (x : h.IsCell b v) (hs : Heap.SameBut a h h') (hb : b ≠ a) : h'.IsCell b v := let ⟨n, e, d⟩ := x; ⟨n, (hs.2 b hb).trans e, d⟩
theorem Frm.presL {F : Addr → Prop} {h h' : Heap} (f : Frm C F h ρ μ) {a : Addr} {o : Obj} (hs : Heap.SameBut a h h') (e : h.get? a = some o) (hp : plainObj o) (hF : F a) (h0 : C.h₀.get? a = none) : Pres B F h h' ∧ Pres B none' C.h₀ h' :=
  ⟨.sameBut hs e hp hF, f.pres.then (.sameBut (F := fun b => b = a) hs e hp rfl) fun b q => by rw [q]; exact h0⟩
theorem st_local {A : Around} {F : Addr → Prop} {s : Shared} {x : Str} {v : Value} {P : Pd B} (f : Frm C F s.heap ρ μ) (hv : P.p F s.heap v) (hk : C.env.kindOf x = some .local) :
    wpAny (md B) A (storeName C.env x v) (fun _ s' => Rest s s' ∧ Frm C F s'.heap (upd ρ x P) μ ∧ Pres B (Mut C μ) s.heap s'.heap) noE s := by
  obtain ⟨m, hn, hm⟩ := f.loc
  refine wpAny_storeName_local hk hn (fun h' hn' hs => ⟨⟨rfl, rfl, rfl⟩, ?_, ?_⟩) (by rw [f.kind]; rfl); rotate_left; exact (let ⟨_, _, _, e, hd, _⟩ := id hn; Pres.sameBut hs e (plain_dict hd) (.inl rfl))
  obtain ⟨o, es, ep, e, hd, _⟩ := id hn
  obtain ⟨pF, p0⟩ := f.presL hs e (plain_dict hd) f.fl f.fresh
  refine { base := f.base, pres := p0, kind := f.kind, glob := f.glob, blt := f.blt, fl := f.fl, lt := fun b q => Nat.lt_of_lt_of_le (f.lt b q) (Nat.le_of_eq hs.1.symm), fresh := f.fresh, stk := f.stk, loc := ⟨_, hn', ?_⟩, cel := ?_, kinds := ?_, own := ?_, inj := f.inj, lst := ?_ }
  · intro y Q hq hy
    unfold upd at hq
    by_cases hyx : y = x
    · rw [if_pos hyx] at hq; cases hq; exact ⟨v, if_pos hyx, P.mono hv pF⟩
    · rw [if_neg hyx] at hq
      obtain ⟨u, hu, hp⟩ := hm y Q hq hy
      exact ⟨u, by rw [if_neg hyx]; exact hu, Q.mono hp pF⟩
  · intro y Q hq hy
    unfold upd at hq
    by_cases hyx : y = x
    · subst hyx; rw [hk] at hy; rcases hy with hy | hy <;> cases hy
    · rw [if_neg hyx] at hq
      obtain ⟨c, u, hl, hc, hp⟩ := f.cel y Q hq hy
      exact ⟨c, u, hl, cell_sameBut hc hs (ns_ne_cell hn hc), Q.mono hp pF⟩
  · intro y Q hq
    unfold upd at hq
    by_cases hyx : y = x
    · subst hyx; exact .inl hk
    · rw [if_neg hyx] at hq; exact f.kinds y Q hq
  · intro y hq hy
    obtain ⟨c, u, hl, hF, h0, hc⟩ := f.own y hq hy
    exact ⟨c, u, hl, hF, h0, cell_sameBut hc hs (ns_ne_cell hn hc)⟩
  · intro a Ps q
    obtain ⟨hF, h0, vs, hz, hp⟩ := f.lst a Ps q
    exact ⟨hF, h0, vs, hz.sameBut hs (ns_ne_seq hn hz), hp.mono pF⟩
theorem st_cell {A : Around} {F : Addr → Prop} {s : Shared} {x : Str} {v : Value} {P : Pd B} (f : Frm C F s.heap ρ μ) (hv : P.p F s.heap v) (hk : C.env.kindOf x = some .cell) (hst : C.stor x = true) :
    wpAny (md B) A (storeName C.env x v) (fun _ s' => Rest s s' ∧ Frm C F s'.heap (upd ρ x P) μ ∧ Pres B (Mut C μ) s.heap s'.heap) noE s := by
  obtain ⟨m, hn, hm⟩ := f.loc
  obtain ⟨c, v₀, hl, hFc, h0c, hc⟩ := f.own x hst hk
  refine wpAny_storeName_cell f.kind hk hl hc (fun h' hc' hs => ⟨⟨rfl, rfl, rfl⟩, ?_, ?_⟩); rotate_left; exact (let ⟨_, e, hd⟩ := id hc; Pres.sameBut hs e (plain_cell hd) (.inr (.inl ⟨x, hst, hk, hl⟩)))
  obtain ⟨o, e, hd⟩ := id hc
  obtain ⟨pF, p0⟩ := f.presL hs e (plain_cell hd) hFc (Heap.get?_none_of_le h0c)
  have hLc : C.env.locals ≠ c := (ns_ne_cell hn hc).symm
  refine { base := f.base, pres := p0, kind := f.kind, glob := f.glob, blt := f.blt, fl := f.fl, lt := fun b q => Nat.lt_of_lt_of_le (f.lt b q) (Nat.le_of_eq hs.1.symm), fresh := f.fresh, stk := f.stk, loc := ⟨m, hn.sameBut hs hLc, ?_⟩, cel := ?_, kinds := ?_, own := ?_, inj := f.inj, lst := ?_ }
  · intro y Q hq hy
    unfold upd at hq
    by_cases hyx : y = x
    · subst hyx; rw [hk] at hy; cases hy
    · rw [if_neg hyx] at hq
      obtain ⟨u, hu, hp⟩ := hm y Q hq hy
      exact ⟨u, hu, Q.mono hp pF⟩
  · intro y Q hq hy
    unfold upd at hq
    by_cases hyx : y = x
    · rw [if_pos hyx] at hq; cases hq; subst hyx; exact ⟨c, v, hl, hc', P.mono hv pF⟩
    · rw [if_neg hyx] at hq
      obtain ⟨c', u, hl', hc₂, hp⟩ := f.cel y Q hq hy
      have hcc : c' ≠ c := fun q => hyx (f.inj y x c (q ▸ hl') hl)
      exact ⟨c', u, hl', cell_sameBut hc₂ hs hcc, Q.mono hp pF⟩
  · intro y Q hq
    unfold upd at hq
    by_cases hyx : y = x
    · subst hyx; exact .inr (.inl hk)
    · rw [if_neg hyx] at hq; exact f.kinds y Q hq
  · intro y hq hy
    obtain ⟨c', u, hl', hF, h0, hc₂⟩ := f.own y hq hy
    by_cases hyx : y = x
    · subst hyx; rw [hl] at hl'; cases hl'; exact ⟨c, some v, hl, hF, h0, hc'⟩
    · have hcc : c' ≠ c := fun q => hyx (f.inj y x c (q ▸ hl') hl)
      exact ⟨c', u, hl', hF, h0, cell_sameBut hc₂ hs hcc⟩
  · intro a Ps q
    obtain ⟨hF, h0, vs, hz, hp⟩ := f.lst a Ps q
    exact ⟨hF, h0, vs, hz.sameBut hs (cell_ne_seq hc hz), hp.mono pF⟩
/-- a name that may be stored -/
noncomputable def Sto (C : Cx B) (x : Str) : Prop := C.env.kindOf x = some .local ∨ (C.env.kindOf x = some .cell ∧ C.stor x = true)
theorem st_any {A : Around} {F : Addr → Prop} {s : Shared} {x : Str} {v : Value} {P : Pd B} (f : Frm C F s.heap ρ μ) (hv : P.p F s.heap v) (hk : Sto C x) :
    wpAny (md B) A (storeName C.env x v) (fun _ s' => Rest s s' ∧ Frm C F s'.heap (upd ρ x P) μ ∧ Pres B (Mut C μ) s.heap s'.heap) noE s :=
  hk.elim (fun k => st_local f hv k) fun k => st_cell f hv k.1 k.2
/-- a step, then the same frame -/
theorem Nxt.same {F : Addr → Prop} {h h' : Heap} {ρ' : Rho B} (f : Frm C F h' ρ' μ) : Nxt C F μ h ρ' μ h' F := ⟨fun _ q => q, fun _ q => .inl q, f, fun _ q => .inl q⟩
theorem OutOk.before {F : Addr → Prop} {h h₁ h₂ : Heap} {o : Out B} {fl : Flow} (f : Frm C F h₁ ρ μ) (p : Pres B none' h h₁) (x : OutOk C F μ h₁ o fl h₂) : OutOk C F μ h o fl h₂ := Nxt.out p.any (.same f) x
theorem Ex.nil : Ex C ρ μ [] (.next ρ μ) := fun F s f => wpAny_execs_nil ⟨.refl, .refl, F, .same f⟩
theorem Ex.cons {st : Stmt} {rest : List Stmt} {ρ' : Rho B} {μ' : Mu B} {o : Out B} (h : Ex1 C ρ μ st (.next ρ' μ')) (h' : Ex C ρ' μ' rest o) : Ex C ρ μ (st :: rest) o := fun F s f =>
  wpAny_execs_cons (wpMono (h F s f) fun fl s₁ ⟨r₁, p₁, h₁⟩ => by
    cases fl with
    | next => obtain ⟨F', n⟩ := h₁; exact wpMono (h' F' s₁ n.frm) fun _ s₂ ⟨r₂, h₂⟩ => ⟨r₁.trans r₂, n.out p₁ h₂⟩
    | brk => exact h₁.elim
    | cont => exact h₁.elim
    | ret v => exact h₁.elim)
noncomputable def Out.leaves : Out B → Bool
  | .next .. => false
  | _ => true
theorem Ex.leave {st : Stmt} {rest : List Stmt} {o : Out B} (h : Ex1 C ρ μ st o) (ho : o.leaves = true := by rfl) : Ex C ρ μ (st :: rest) o := fun F s f =>
  wpAny_execs_cons (wpMono (h F s f) fun fl s₁ h₁ => by
    cases o with
    | next ρ μ => cases ho
    | brk ρ μ => cases fl <;> first | exact h₁.2.2.elim | exact h₁
    | cont ρ μ => cases fl <;> first | exact h₁.2.2.elim | exact h₁
    | ret P => cases fl <;> first | exact h₁.2.2.elim | exact h₁)
theorem Ex1.assign {x : Str} {pos' pos : Pos} {e : Expr} {P : Pd B} (h : Ev C ρ μ e P) (hk : Sto C x)
    (hs : swapsWith e (some (.Name x pos')) pos.line C.env = pure false := by rfl) : Ex1 C ρ μ (.Assign [.Name x pos'] e pos) (.next (upd ρ x P) μ) := fun F s f =>
  wpAny_Assign_Name (wpMono (h F s f) fun v s₁ ⟨p₁, h₁⟩ => wpMono (st_any (f.step p₁.p) h₁ hk) fun _ s₂ ⟨r₂, h₂, p₂⟩ => ⟨p₁.r.trans r₂, p₁.p.any.trans p₂, F, .same h₂⟩) hs
theorem Ex1.ite {t : Expr} {a b : List Stmt} {pos : Pos} {c : Bool} {o : Out B} (ht : EvT C ρ μ t c) (ha : c = true → Ex C ρ μ a o) (hb : c = false → Ex C ρ μ b o) : Ex1 C ρ μ (.If t a b pos) o := fun F s f =>
  wpAny_If (wpMono (ht F s f) fun v s₁ ⟨p₁, h₁⟩ => by
    subst h₁
    cases v with
    | true => exact wpMono (ha rfl F s₁ (f.step p₁.p)) fun v s₂ ⟨r₂, h₂⟩ => ⟨p₁.r.trans r₂, h₂.before (f.step p₁.p) p₁.p⟩
    | false => exact wpMono (hb rfl F s₁ (f.step p₁.p)) fun v s₂ ⟨r₂, h₂⟩ => ⟨p₁.r.trans r₂, h₂.before (f.step p₁.p) p₁.p⟩)
theorem Ex1.ret {e : Expr} {pos : Pos} {P : Pd B} (h : Ev C ρ μ e P) : Ex1 C ρ μ (.Return (some e) pos) (.ret P) := fun F s f =>
  wpAny_Return_some (wpMono (h F s f) fun v s₁ ⟨p₁, h₁⟩ => ⟨p₁.r, p₁.p.any, f.pres.trans p₁.p, P.weak h₁ fun b q => .inl q.1⟩)
theorem Ex1.brk {pos : Pos} : Ex1 C ρ μ (.Break pos) (.brk ρ μ) := fun F s f => wpAny_Break ⟨.refl, .refl, F, .same f⟩
/-- while, turn by turn -/
noncomputable def Wh {B : Bs} (C : Cx B) (ρ : Rho B) (μ : Mu B) (test : Expr) (body : List Stmt) (o : Out B) : Prop :=
  ∀ F s, Frm C F s.heap ρ μ → codeAny (md B) C.A (.whileLoop test body [] C.env) (fun r s' => match r with | .ok f => Rest s s' ∧ OutOk C F μ s.heap o f s'.heap | .error _ => False) s
theorem while_turn {test : Expr} {body : List Stmt} {env : Env} {A : Around} {R : Result → Shared → Prop} {s : Shared}
    (h : wpAny (md B) A (isTrue test env (eval test env)) (fun b s₂ =>
        if b then wpAny (md B) A (execs body env) (fun f s₃ => match f with
            | .next | .cont => codeAny (md B) A (.whileLoop test body [] env) R s₃
            | .brk => R (.ok .next) s₃
            | .ret v => R (.ok (.ret v)) s₃) noE s₂
        else R (.ok .next) s₂) noE s) : codeAny (md B) A (.whileLoop test body [] env) R s := by
  refine codeAny_of_tree ?_
  show wpAny _ A ((whileTurn test body [] env).onRaise (fun x => do noteFrame x env; theTreesLotGoes x)) _ _ s
  refine wpAny_onRaise (wpAny_mono (E := noE) (Q := fun fin s' => match fin with | .done f => R (.ok f) s' | .again c' => c'.quiet = true ∧ codeAny (md B) A c' R s') ?_ (fun _ _ x => x) fun _ _ x => x.elim)
  simp only [whileTurn]
  refine wpAny_bind (wpMono h fun b s₂ h₂ => ?_)
  cases b with
  | false => exact wpAny_bind (wpAny_pure (wpAny_pure h₂))
  | true =>
    simp only [if_true] at h₂ ⊢
    refine wpAny_bind (wpMono h₂ fun f s₃ h₃ => ?_)
    cases f with
    | next => exact wpAny_pure ⟨rfl, h₃⟩
    | cont => exact wpAny_pure ⟨rfl, h₃⟩
    | brk => exact wpAny_pure h₃
    | ret v => exact wpAny_pure h₃
theorem Wh.stop {test : Expr} {body : List Stmt} (ht : EvT C ρ μ test false) : Wh C ρ μ test body (.next ρ μ) := fun F s f =>
  while_turn (wpMono (ht F s f) fun b s₂ ⟨p, hb⟩ => by subst hb; exact ⟨p.r, p.p.any, F, .same (f.step p.p)⟩)
theorem Wh.turn {test : Expr} {body : List Stmt} {ρ' : Rho B} {μ' : Mu B} {o : Out B} (ht : EvT C ρ μ test true) (hb : Ex C ρ μ body (.next ρ' μ')) (hw : Wh C ρ' μ' test body o) : Wh C ρ μ test body o := fun F s f =>
  while_turn (wpMono (ht F s f) fun b s₂ ⟨p, hb'⟩ => by
    subst hb'
    refine wpMono (hb F s₂ (f.step p.p)) fun fl s₃ ⟨r₃, h₃'⟩ => ?_
    obtain ⟨p₃, h₃⟩ := h₃'.before (f.step p.p) p.p
    cases fl with
    | next => obtain ⟨F', n⟩ := h₃; exact codeAny_mono (hw F' s₃ n.frm) fun r s' h => by cases r with | ok fl => exact ⟨(p.r.trans r₃).trans h.1, n.out p₃ h.2⟩ | error e => exact h
    | brk => exact h₃.elim
    | cont => exact h₃.elim
    | ret v => exact h₃.elim)
theorem Wh.brk {test : Expr} {body : List Stmt} {ρ' : Rho B} {μ' : Mu B} (ht : EvT C ρ μ test true) (hb : Ex C ρ μ body (.brk ρ' μ')) : Wh C ρ μ test body (.next ρ' μ') := fun F s f =>
  while_turn (wpMono (ht F s f) fun b s₂ ⟨p, hb'⟩ => by
    subst hb'
    refine wpMono (hb F s₂ (f.step p.p)) fun fl s₃ ⟨r₃, h₃'⟩ => ?_
    obtain ⟨p₃, h₃⟩ := h₃'.before (f.step p.p) p.p
    cases fl with
    | brk => exact ⟨p.r.trans r₃, p₃, h₃⟩
    | next => exact h₃.elim
    | cont => exact h₃.elim
    | ret v => exact h₃.elim)
theorem Wh.ret {test : Expr} {body : List Stmt} {P : Pd B} (ht : EvT C ρ μ test true) (hb : Ex C ρ μ body (.ret P)) : Wh C ρ μ test body (.ret P) := fun F s f =>
  while_turn (wpMono (ht F s f) fun b s₂ ⟨p, hb'⟩ => by
    subst hb'
    refine wpMono (hb F s₂ (f.step p.p)) fun fl s₃ ⟨r₃, h₃'⟩ => ?_
    obtain ⟨p₃, h₃⟩ := h₃'.before (f.step p.p) p.p
    cases fl with
    | ret v => exact ⟨p.r.trans r₃, p₃, h₃⟩
    | next => exact h₃.elim
    | cont => exact h₃.elim
    | brk => exact h₃.elim)
theorem Ex1.while {test : Expr} {body : List Stmt} {pos : Pos} {o : Out B} (h : Wh C ρ μ test body o) : Ex1 C ρ μ (.While test body [] pos) o := fun F s f =>
  wpAny_While (codeAny_mono (h F s f) fun r s' h => by cases r with | ok fl => exact h | error e => exact h.elim)
end Mine
open PySem PySem.W PyProof.Rows
set_option Elab.async false
set_option maxRecDepth 100000
set_option linter.unusedVariables false
set_option linter.unusedSimpArgs false
namespace Mine
variable {B : Bs} {C : Cx B} {ρ : Rho B} {μ : Mu B}
/-- there is room for n more calls, one in the other -/
structure Room (n : Nat) (A : Around) : Prop where
  depth : A.depth + n ≤ 900
  units : A.units + 10 * n ≤ 9000
  guards : A.guards = some []
  frames : ∃ l, A.frames = some l
theorem Room.le {n m : Nat} {A : Around} (r : Room n A) (h : m ≤ n) : Room m A := ⟨by have := r.depth; lia, by have := r.units; lia, r.guards, r.frames⟩
theorem Room.deeper {n : Nat} {A : Around} {env : Env} (r : Room (n + 1) A) : Room n (A.deeper env) :=
  ⟨by have := r.depth; show A.depth + 1 + n ≤ 900; lia, by have := r.units; show A.units + 3 + 10 * n ≤ 9000; lia, r.guards, let ⟨l, e⟩ := r.frames; ⟨env :: l, by show A.frames.map _ = _; rw [e]; rfl⟩⟩
/-- a value that may be called: a built-in, a class, a def of the text -/
noncomputable def Kept (B : Bs) : Value → Prop
  | .builtin _ => True
  | .type _ => True
  | .ref a => ∀ h, Base B h → ∃ o fd, h.get? a = some o ∧ o.data = .func fd
  | _ => False
structure Fn (B : Bs) (n : Nat) (v : Value) (Ps : List (Pd B)) (P : Pd B) (H : Option Value → Prop := fun x => x = Option.none) : Prop where
  kept : Kept B v
  call : ∀ F A s vs, Room n A → H A.handled → Stk B A s.heap → Base B s.heap → (∀ b, F b → b < s.heap.objs.size) → all2 F s.heap Ps vs → wpAny (md B) A (PySem.call v vs []) (fun r s' => Stp B s s' ∧ P.p F s'.heap r) noE s
theorem EvL.nil : EvL C ρ μ [] [] := fun F s pos f => by
  show wpAny _ _ (spliced []) _ _ _
  exact wpAny_pure ⟨.refl, trivial⟩
theorem EvL.cons {e : Expr} {es : List Expr} {P : Pd B} {Ps : List (Pd B)} (h : Ev C ρ μ e P) (h' : EvL C ρ μ es Ps) (hs : starEach (e :: es) C.env = (false, eval e C.env) :: starEach es C.env := by rfl) : EvL C ρ μ (e :: es) (P :: Ps) := fun F s pos f => by
  rw [hs]
  show wpAny (md B) C.A (do let v ← eval e C.env; let here ← (pure [v] : Sem (List Value)); return here ++ (← holding here (spliced (backTo pos (starEach es C.env))))) _ _ s
  refine wpAny_bind (wpMono (h F s f) fun v s₁ ⟨p₁, h₁⟩ => wpAny_bind (wpAny_pure (wpAny_bind (wpAny_holding (wpMono (h' F s₁ pos (f.step p₁.p)) fun vs s₂ ⟨p₂, h₂⟩ => wpAny_pure ⟨p₁.trans p₂, P.mono h₁ p₂.p.any, h₂⟩)))))
theorem evalArgs_any {M : Model} {A : Around} {f : Value} {args : List (Bool × Sem Value)} {Q : Args → Shared → Prop} {E : Value → Shared → Prop} {s : Shared} (hp : args.any (·.1) = false)
    (h : wpAny M A (spliced args) (fun vs s' => Q ⟨vs, []⟩ s') E s) : wpAny M A (evalArgs f true args []) Q E s := by
  cases args with
  | nil =>
    intro Γ p hΓ
    exact evalArgs_nil3 (h Γ p hΓ) Γ p hΓ
  | cons x rest =>
    obtain ⟨b, x⟩ := x
    simp only [List.any_cons, Bool.or_eq_false_iff] at hp
    obtain rfl : b = false := hp.1
    exact PySem.Calls.evalArgs_plain h
/-- a callee, its arguments read, then the call -/
theorem callWith_any {A : Around} {pos : Pos} {v : Value} {first : List Value} {args : List (Bool × Sem Value)} {Q : Value → Shared → Prop} {E : Value → Shared → Prop} {s : Shared} (hk : Kept B v) (hp : args.any (·.1) = false)
    (h : wpAny (md B) A (spliced args) (fun vs s₁ => Base B s₁.heap ∧ wpAny (md B) A (PySem.call v (first ++ vs) []) Q E s₁) E s) : wpAny (md B) A (callWith pos v first args []) Q E s := by
  cases v with
  | builtin id => exact PySem.Calls.callWith_builtin hp (evalArgs_any hp (wpAny_mono h (fun _ _ x => x.2) fun _ _ x => x))
  | type T => exact PyProof.Rows.callWith_type hp (evalArgs_any hp (wpAny_mono h (fun _ _ x => x.2) fun _ _ x => x))
  | ref a =>
    unfold callWith
    refine wpAny_bind (wpAny_holding (evalArgs_any hp (wpAny_mono h (fun vs s₁ h₁ => wpAny_bind (wpAny_standAt ?_)) fun _ _ x => x)))
    obtain ⟨o, fd, ho, hd⟩ := hk _ h₁.1
    have tail : ∀ {t : Sem Value}, wpAny (md B) A t Q E s₁ → wpAny (md B) A (t >>= fun r => holding [r] point >>= fun _ => pure r) Q E s₁ :=
      fun ht => wpAny_bind (wpAny_mono ht (fun r s₂ hr => wpAny_bind (wpAny_holding (wpAny_point (wpAny_pure hr)))) fun _ _ x => x)
    simp only [hp, List.any_nil, Bool.or_false]
    refine wpAny_bind (m := keeperOf (.ref a)) ?_
    unfold keeperOf
    refine wpAny_bind (wpAny_load ho ?_)
    rw [hd]
    refine wpAny_pure ?_
    dsimp only
    split
    · exact tail h₁.2
    · exact tail (by unfold callMarked; exact PySem.Calls.wpAny_keep h₁.2)
  | _ => exact hk.elim
theorem Ev.call {x : Str} {np pos : Pos} {args : List Expr} {v : Value} {Ps : List (Pd B)} {P : Pd B} {n : Nat} {H : Option Value → Prop} (hf : Ev C ρ μ (.Name x np) (pv v)) (ha : EvL C ρ μ args Ps) (hn : Fn B n v Ps P H) (hr : Room n C.A) (hh : H C.A.handled)
    (hp : (backTo pos (starEach args C.env)).any (·.1) = false := by rfl) : Ev C ρ μ (.Call (.Name x np) args [] pos) P := fun F s f =>
  wpAny_Call_NameR (wpMono (hf F s f) fun g s₁ ⟨p₁, h₁⟩ => by
    obtain rfl : g = v := h₁
    refine callWith_any hn.kept hp (wpMono (ha F s₁ pos (f.step p₁.p)) fun vs s₂ ⟨p₂, h₂⟩ => ?_)
    have f₂ := (f.step p₁.p).step p₂.p
    exact ⟨f₂.h, wpMono (hn.call F C.A s₂ vs hr hh f₂.stack f₂.h f₂.lt h₂) fun r s₃ ⟨p₃, h₃⟩ => ⟨(p₁.trans p₂).trans p₃, h₃⟩⟩)
/-- names and what is said of them -/
noncomputable def updL (ρ : Rho B) : List Str → List (Pd B) → Rho B
  | x :: xs, P :: Ps => updL (upd ρ x P) xs Ps
  | _, _ => ρ
theorem binds_loop {A : Around} {F : Addr → Prop} : ∀ (xs : List Str) (vs : List Value) (Ps : List (Pd B)) (ρ : Rho B) (s : Shared), xs.length = vs.length → Frm C F s.heap ρ μ → all2 F s.heap Ps vs → (∀ x ∈ xs, Sto C x) →
    wpAny (md B) A (forIn (xs.zip vs) PUnit.unit fun x _ => do storeName C.env x.1 x.2; pure (.yield PUnit.unit)) (fun _ s' => Rest s s' ∧ Frm C F s'.heap (updL ρ xs Ps) μ) noE s
  | [], [], [], ρ, s, _, f, _, _ => by exact wpAny_pure ⟨.refl, f⟩
  | x :: xs, v :: vs, P :: Ps, ρ, s, hl, f, hv, hs => by
    rw [List.zip_cons_cons, List.forIn_cons]
    refine wpAny_bind (wpAny_bind (wpMono (st_any f hv.1 (hs x List.mem_cons_self)) fun _ s₁ ⟨r₁, f₁, p₁⟩ => wpAny_pure ?_))
    exact wpMono (binds_loop xs vs Ps _ s₁ (Nat.succ.inj hl) f₁ (hv.2.mono (p₁.weak fun b q => f.mutF q)) fun y hy => hs y (List.mem_cons_of_mem _ hy)) fun _ s₂ ⟨r₂, f₂⟩ => ⟨r₁.trans r₂, f₂⟩
  | [], [], _ :: _, _, _, _, _, hv, _ => hv.elim
  | _ :: _, _ :: _, [], _, _, _, _, hv, _ => hv.elim
  | [], _ :: _, _, _, _, hl, _, _, _ => by simp at hl
  | _ :: _, [], _, _, _, hl, _, _, _ => by simp at hl
theorem lookup_cellsFrom : ∀ (names : List (Str × NameKind)) (n : Nat) (acc : List (Str × Addr)) (x : Str), names.lookup x = some .cell → ∃ c, (cellsFrom n names acc).lookup x = some c ∧ n ≤ c := by
  have mono : ∀ (names : List (Str × NameKind)) (n : Nat) (acc : List (Str × Addr)) (x : Str) (c : Addr) (m : Nat), m ≤ n → acc.lookup x = some c → m ≤ c → ∃ c', (cellsFrom n names acc).lookup x = some c' ∧ m ≤ c' := by
    intro names
    induction names with
    | nil => intro n acc x c m hm hl hc; exact ⟨c, hl, hc⟩
    | cons y r ih =>
      intro n acc x c m hm hl hc
      obtain ⟨y, k⟩ := y
      unfold cellsFrom
      split
      · by_cases hxy : x = y
        · subst hxy; exact ih (n + 1) _ x n m (by lia) (by simp [List.lookup_cons]) hm
        · exact ih (n + 1) _ x c m (by lia) (by rw [List.lookup_cons, show (x == y) = false from by simpa using hxy]; exact hl) hc
      · exact ih n acc x c m hm hl hc
  intro names
  induction names with
  | nil => intro n acc x h; cases h
  | cons y r ih =>
    intro n acc x h
    obtain ⟨y, k⟩ := y
    rw [List.lookup_cons] at h
    unfold cellsFrom
    by_cases hxy : x = y
    · subst hxy
      simp only [beq_self_eq_true] at h
      cases h
      rw [if_pos (by rfl)]
      obtain ⟨c', a, b⟩ := mono r (n + 1) ((x, n) :: acc) x n n (by lia) (by simp [List.lookup_cons]) (Nat.le_refl n)
      exact ⟨c', a, b⟩
    · have hb : (x == y) = false := by simpa using hxy
      rw [hb] at h
      split
      · obtain ⟨c', a, b⟩ := ih (n + 1) ((y, n) :: acc) x h
        exact ⟨c', a, by lia⟩
      · exact ih n acc x h
/-- the frame of a call -/
noncomputable def callEnv (fd : FuncData) (L a : Addr) : Env := newEnv fd.scope L fd.globals (cellsFrom (L + 1) fd.scope.names fd.closure) (fd.qualname ++ ".<locals>.") (some a) fd.code none fd.builtins
noncomputable def mkC (B : Bs) (A : Around) (h₀ : Heap) (fd : FuncData) (a : Addr) : Cx B := { A := A.deeper (callEnv fd h₀.objs.size a), env := callEnv fd h₀.objs.size a, h₀ := h₀ }
/-- each new cell is empty, and the cells are apart -/
structure CellsOk2 (h : Heap) (lo : Nat) (cl cs : List (Str × Addr)) : Prop where
  empty : ∀ n c, (n, c) ∈ cs → (n, c) ∈ cl ∨ (h.IsCell c none ∧ lo ≤ c)
  apart : cs.Pairwise fun x y => x.2 ≠ y.2
theorem cellsFrom_ok2 (cl : List (Str × Addr)) : ∀ (names : List (Str × NameKind)) (h : Heap) (lo : Nat) (acc : List (Str × Addr)), CellsOk2 h lo cl acc → (∀ p ∈ acc, p.2 < h.objs.size) → lo ≤ h.objs.size →
    CellsOk2 (pushCells h names) lo cl (cellsFrom h.objs.size names acc)
  | [], _, _, _, x, _, _ => x
  | (name, kind) :: r, h, lo, acc, x, hlt, hlo => by
    unfold pushCells cellsFrom
    split
    · have := cellsFrom_ok2 cl r (h.push { cls := .type "cell", data := .cell none }) lo ((name, h.objs.size) :: acc)
        ⟨fun n c hm => by
            rcases List.mem_cons.mp hm with e | hm
            · cases e; exact .inr ⟨⟨_, Heap.get?_push_size _ rfl, rfl⟩, hlo⟩
            · exact (x.empty n c hm).imp id fun q => ⟨q.1.keeps fun b o e => Heap.get?_push_of_some _ e, q.2⟩,
          List.pairwise_cons.mpr ⟨fun y hy e => by
            have e' : h.objs.size = y.2 := e
            exact Nat.lt_irrefl _ (Nat.lt_of_lt_of_le (hlt y hy) (Nat.le_of_eq e')), x.apart⟩⟩ (fun p hp => by
              rw [Heap.size_push]
              rcases List.mem_cons.mp hp with rfl | hp
              · exact Nat.lt_succ_self _
              · have : (p.2 : Nat) < h.objs.size := hlt p hp
                exact Nat.lt_succ_of_lt this) (by rw [Heap.size_push]; lia)
      rwa [Heap.size_push] at this
    · exact cellsFrom_ok2 cl r h lo acc x hlt hlo
theorem pushCells_size : ∀ (names : List (Str × NameKind)) (h : Heap), h.objs.size ≤ (pushCells h names).objs.size
  | [], _ => Nat.le_refl _
  | (_, kind) :: r, h => by
    unfold pushCells
    split
    · exact Nat.le_trans (by rw [Heap.size_push]; lia) (pushCells_size r _)
    · exact pushCells_size r h
theorem enter {A A' : Around} {F : Addr → Prop} {s : Shared} {fd : FuncData} {a : Addr} {ρ₀ : Rho B} {xs : List Str} {vs : List Value} {Ps : List (Pd B)}
    (hb : Base B s.heap) (hst : Stk B A s.heap) (hlt : ∀ b, F b → b < s.heap.objs.size) (hk : fd.scope.kind = .function) (hg : fd.globals = mainGlobals) (hbl : fd.builtins = builtinsNs)
    (hlen : xs.length = vs.length) (hvs : all2 F s.heap Ps vs) (hxs : ∀ x ∈ xs, fd.scope.names.lookup x = some .local ∨ fd.scope.names.lookup x = some .cell)
    (hcl : ∀ p ∈ fd.closure, p.2 < s.heap.objs.size) (hap : fd.closure.Pairwise fun x y => x.2 ≠ y.2)
    (hρ : ∀ x P, ρ₀ x = some P → fd.scope.names.lookup x = some .free ∧ ∃ c v, (cellsFrom (s.heap.objs.size + 1) fd.scope.names fd.closure).lookup x = some c ∧ s.heap.IsCell c (some v) ∧ P.p F s.heap v) :
    wpAny (md B) A' (newFunctionEnv fd.scope fd.globals fd.closure (xs.zip vs) (fd.qualname ++ ".<locals>.") (some a) fd.code none fd.builtins)
      (fun env s₂ => env = callEnv fd s.heap.objs.size a ∧ Rest s s₂ ∧ ∃ F', (∀ b, F b → F' b) ∧ (∀ b, F' b → F b ∨ s.heap.objs.size ≤ b) ∧ Frm (mkC B A s.heap fd a) F' s₂.heap (updL ρ₀ xs Ps) (fun _ => none)) noE s := by
  simp only [newFunctionEnv, Option.isSome_none, Bool.false_eq_true, if_false]
  refine wpAny_bind (wpAny_alloc ?_)
  refine wpAny_bind (wpAny_layCells _ (fun name kind cells => ?_) _ _ _ _ ?_)
  · cases kind <;> rfl
  have hsz : ({ s with heap := s.heap.push { cls := .type "frame", data := .dict #[] } } : Shared).heap.objs.size = s.heap.objs.size + 1 := Heap.size_push ..
  rw [hsz]
  have hpc := pushCells_size fd.scope.names (s.heap.push { cls := .type "frame", data := .dict #[] })
  have hkeep := pushCells_keeps fd.scope.names (s.heap.push { cls := .type "frame", data := .dict #[] })
  have hok := cellsFrom_ok2 fd.closure fd.scope.names (s.heap.push { cls := .type "frame", data := .dict #[] }) (s.heap.objs.size + 1) fd.closure ⟨fun n c h => .inl h, hap⟩ (fun p hp => by rw [Heap.size_push]; exact Nat.lt_succ_of_lt (hcl p hp)) (by rw [Heap.size_push]; lia)
  rw [Heap.size_push] at hok hpc
  generalize hh2 : pushCells (s.heap.push { cls := .type "frame", data := .dict #[] }) fd.scope.names = h₂ at hpc hkeep hok
  have hk2 : ∀ b o, s.heap.get? b = some o → h₂.get? b = some o := fun b o e => hkeep b o (Heap.get?_push_of_some _ e)
  have hp2 : Pres B none' s.heap h₂ := .of_keep hk2 (by lia)
  have hnone : s.heap.get? s.heap.objs.size = Option.none := Heap.get?_none_of_le (Nat.le_refl _)
  have hweak : ∀ b, (F b ∨ (s.heap.objs.size ≤ b ∧ b < h₂.objs.size)) → F b ∨ s.heap.get? b = Option.none := fun b q => q.imp id fun q => Heap.get?_none_of_le q.1
  have f₂ : Frm (mkC B A s.heap fd a) (fun b => F b ∨ (s.heap.objs.size ≤ b ∧ b < h₂.objs.size)) h₂ ρ₀ (fun _ => none) :=
    { base := hb
      pres := hp2
      kind := hk
      glob := hg
      blt := hbl
      fl := .inr ⟨Nat.le_refl _, by show s.heap.objs.size < _; lia⟩
      lt := fun b q => q.elim (fun q => by have : (b : Nat) < s.heap.objs.size := hlt b q; exact Nat.lt_of_lt_of_le this (by lia)) fun q => q.2
      fresh := hnone
      stk := by
        obtain ⟨l, e, hl⟩ := hst
        refine ⟨callEnv fd s.heap.objs.size a :: l, by show A.frames.map _ = _; rw [e]; rfl, fun env he => ?_⟩
        rcases List.mem_cons.mp he with rfl | he
        · exact ⟨hk, s.heap.objs.size, rfl, hb.size, .inl rfl⟩
        · obtain ⟨hk', L, hf, hn, o, es, n, ho, hd⟩ := hl env he
          exact ⟨hk', L, hf, hn, .inr ⟨o, es, n, ho, hd⟩⟩
      loc := ⟨fun _ => none, ⟨_, #[], 0, hkeep _ _ (Heap.get?_push_size _ rfl), rfl, fun _ he => by simp at he, fun _ => rfl⟩, fun x P hx hk => by
        have := (hρ x P hx).1
        have hk' : fd.scope.names.lookup x = some .local := hk
        rw [this] at hk'; cases hk'⟩
      cel := fun x P hx _ => by
        obtain ⟨_, c, v, hl, ⟨o, e, hd⟩, hp⟩ := hρ x P hx
        exact ⟨c, v, hl, ⟨o, hk2 _ _ e, hd⟩, P.mono (P.weak hp hweak) hp2.any⟩
      kinds := fun x P hx => .inr (.inr (hρ x P hx).1)
      own := fun x _ hx => by
        obtain ⟨c, hl, hc⟩ := lookup_cellsFrom fd.scope.names (s.heap.objs.size + 1) fd.closure x hx
        have hm := mem_of_lookup hl
        have hcell : h₂.IsCell c none := by
          rcases hok.empty x c hm with q | q
          · exact absurd (hcl _ q) (Nat.not_lt.mpr (Nat.le_of_succ_le hc))
          · exact q.1
        obtain ⟨o, e, _⟩ := id hcell
        have hc' : s.heap.objs.size ≤ (c : Nat) := Nat.le_of_succ_le hc
        exact ⟨c, none, hl, .inr ⟨hc', Heap.lt_size e⟩, hc', hcell⟩
      inj := fun x y c hx hy => name_of_addr hok.apart (mem_of_lookup hx) (mem_of_lookup hy)
      lst := fun _ _ q => nomatch q }
  refine wpAny_bind (wpMono (binds_loop (C := mkC B A s.heap fd a) xs vs Ps ρ₀ { s with heap := h₂ } hlen f₂ ((hvs.weak hweak).mono hp2.any) fun x hx => ?_) fun _ s₃ ⟨r₃, f₃⟩ => wpAny_pure ⟨rfl, ⟨r₃.1, r₃.2, r₃.3⟩, _, fun b q => .inl q, fun b q => q.imp id (·.1), f₃⟩)
  exact (hxs x hx).imp id fun q => ⟨q, rfl⟩
theorem Base.nolimit {h : Heap} (b : Base B h) : h.NoLimit := B.nolimit.keeps b.keep
theorem Fn.introH {H : Option Value → Prop} {a : Addr} {fd : FuncData} {body : List Stmt} {xs : List Str} {Ps : List (Pd B)} {P : Pd B} {n : Nat}
    (hget : ∀ h, Base B h → ∃ o, h.get? a = some o ∧ o.data = .func fd ∧ h.CodeRec fd.code fd.qualname)
    (hex : ∀ A h₀, Room (n + 1) A → H A.handled → Base B h₀ → Ex (mkC B A h₀ fd a) (updL (fun _ => none) xs Ps) (fun _ => none) body (.ret P))
    (hlen : xs.length = Ps.length := by rfl)
    (hbind : ∀ vs, vs.length = xs.length → bindArgs fd ⟨vs, []⟩ = pure (xs.zip vs))
    (hbody : fd.body = .stmts body := by rfl) (hclo : fd.closure = [] := by rfl) (hk : fd.scope.kind = .function := by rfl) (hg : fd.globals = mainGlobals := by rfl) (hbl : fd.builtins = builtinsNs := by rfl)
    (hco : fd.scope.isCoroutine = false := by rfl) (hgen : fd.scope.isGenerator = false := by rfl)
    (hxs : ∀ x ∈ xs, fd.scope.names.lookup x = some .local ∨ fd.scope.names.lookup x = some .cell := by decide) : Fn B (n + 1) (.ref a) Ps P H where
  kept := fun h hb => let ⟨o, h1, h2, _⟩ := hget h hb; ⟨o, fd, h1, h2⟩
  call := fun F A s vs hr hh hst hb hlt hvs => by
    obtain ⟨o, ho, hd, hcd⟩ := hget _ hb
    have hl : vs.length = xs.length := hvs.length.trans hlen.symm
    refine wpAny_call (codeAny_call_function (by have := hr.depth; show A.depth < 1000; lia) ho hd hco hgen hbody hcd ?_)
    rw [hbind vs hl]
    refine wpAny_pure (wpMono (enter (A := A) (ρ₀ := fun _ => none) hb hst hlt hk hg hbl hl.symm hvs hxs (by rw [hclo]; intro _ h; cases h) (by rw [hclo]; exact .nil) (fun _ _ q => nomatch q)) fun env s₂ h₂ => ?_)
    obtain ⟨rfl, r₂, F', hF, hF', f₂⟩ := h₂
    refine ⟨f₂.h.nolimit, codeAny_func (wpMono (hex A s.heap hr hh hb F' s₂ f₂) fun f s₃ ⟨r₃, _, h₃⟩ => ?_)⟩
    cases f with
    | ret v => exact ⟨⟨h₃.1, r₂.trans r₃⟩, P.weak h₃.2 fun b q => .inl ⟨hF b q, hlt b q⟩⟩
    | next => exact h₃.elim
    | brk => exact h₃.elim
    | cont => exact h₃.elim
theorem Fn.intro {a : Addr} {fd : FuncData} {body : List Stmt} {xs : List Str} {Ps : List (Pd B)} {P : Pd B} {n : Nat}
    (hget : ∀ h, Base B h → ∃ o, h.get? a = some o ∧ o.data = .func fd ∧ h.CodeRec fd.code fd.qualname)
    (hex : ∀ A h₀, Room (n + 1) A → A.handled = none → Base B h₀ → Ex (mkC B A h₀ fd a) (updL (fun _ => none) xs Ps) (fun _ => none) body (.ret P))
    (hlen : xs.length = Ps.length := by rfl)
    (hbind : ∀ vs, vs.length = xs.length → bindArgs fd ⟨vs, []⟩ = pure (xs.zip vs))
    (hbody : fd.body = .stmts body := by rfl) (hclo : fd.closure = [] := by rfl) (hk : fd.scope.kind = .function := by rfl) (hg : fd.globals = mainGlobals := by rfl) (hbl : fd.builtins = builtinsNs := by rfl)
    (hco : fd.scope.isCoroutine = false := by rfl) (hgen : fd.scope.isGenerator = false := by rfl)
    (hxs : ∀ x ∈ xs, fd.scope.names.lookup x = some .local ∨ fd.scope.names.lookup x = some .cell := by decide) : Fn B (n + 1) (.ref a) Ps P := Fn.introH (H := fun x => x = Option.none) hget hex hlen hbind hbody hclo hk hg hbl hco hgen hxs
end Mine
open PySem PySem.W PyProof.Rows
set_option Elab.async false
set_option maxRecDepth 100000
set_option linter.unusedVariables false
set_option linter.unusedSimpArgs false
namespace Mine
variable {B : Bs} {C : Cx B} {ρ : Rho B} {μ : Mu B}
theorem glob_of {K : Frag} (HK : K.In B.hb) {x : Str} {v : Value} (e : nsIn K mainGlobals x = some (some v)) : B.mg x = some v := mg_of HK B.g e
theorem blt_of {K : Frag} (HK : K.In B.hb) {x : Str} (e : nsIn K mainGlobals x = some none) : B.mg x = none := ns_none_of HK B.g e
theorem get_of {K : Frag} (HK : K.In B.hb) {a c : Addr} {cl cl' : Value} {d d' : Option Addr} {sl sl' : Array (Option Value)} {fd : FuncData} {vs : Array Value} {t : Tok} (e : K.lookup a = some ⟨cl, d, .func fd, sl⟩) (hc : fd.code = .ref c)
    (e' : K.lookup c = some ⟨cl', d', .fields vs, sl'⟩) (hq : vs[1]? = some (.str fd.qualname t)) : ∀ h, Base B h → ∃ o, h.get? a = some o ∧ o.data = .func fd ∧ h.CodeRec fd.code fd.qualname :=
  fun h hb => ⟨_, hb.keep _ _ (HK _ _ e), rfl, c, _, vs, t, hc, hb.keep _ _ (HK _ _ e'), rfl, hq⟩
theorem push_get {h : Heap} {o : Obj} (ho : o.isFreed = false) : (h.push o).get? h.objs.size = some o := Heap.get?_push_size h ho
theorem Ev.tuple {es : List Expr} {k : Nat} {pos : Pos} {ds : List D} (h : EvL C ρ μ es (ds.map pd)) (hl : ds.length ≤ sizeLine := by first | decide | (simp only [List.length_cons, List.length_nil]; decide)) : Ev C ρ μ (.Tuple es k pos) (pd (.tup ds)) := fun F s f =>
  wpAny_Tuple_spliced (wpMono (h F s pos f) fun vs s₁ ⟨p₁, h₁⟩ => ⟨by rw [h₁.length, List.length_map]; exact hl, p₁.trans (.push _), by
    simp only [pd, rep]
    refine ⟨_, vs, rfl, fun q => Nat.lt_irrefl _ ((f.step p₁.p).lt _ q), ⟨0, push_get rfl⟩, ?_⟩
    exact all2.pds.mp (h₁.mono (Pres.push _))⟩)
theorem Ev.list {es : List Expr} {pos : Pos} {ds : List D} (h : EvL C ρ μ es (ds.map pd)) (hl : ds.length ≤ sizeLine := by first | decide | (simp only [List.length_cons, List.length_nil]; decide)) : Ev C ρ μ (.List es pos) (pd (.lst ds)) := fun F s f =>
  List_ (wpMono (h F s pos f) fun vs s₁ ⟨p₁, h₁⟩ => wpAny_newList ⟨p₁.trans (.push _), by
    simp only [pd, rep]
    refine ⟨_, vs, rfl, fun q => Nat.lt_irrefl _ ((f.step p₁.p).lt _ q), ⟨0, push_get rfl⟩, ?_⟩
    exact all2.pds.mp (h₁.mono (Pres.push _))⟩ (by rw [h₁.length, List.length_map]; exact hl))
end Mine
open PySem PySem.W PyProof.Rows
set_option Elab.async false
set_option maxRecDepth 100000
set_option linter.unusedVariables false
set_option linter.unusedSimpArgs false
namespace Mine
variable {B : Bs} {C : Cx B} {ρ : Rho B} {μ : Mu B}
/-- a text by the list of its signs -/
noncomputable def mkS (l : List Nat) : Str := ⟨l.toArray⟩
noncomputable abbrev ptx (l : List Nat) : Pd B := pstr (mkS l)
theorem mkS_append (a b : List Nat) : mkS a ++ mkS b = mkS (a ++ b) := by
  show Str.append _ _ = _
  simp [mkS, Str.append]
theorem mkS_length (a : List Nat) : (mkS a).length = a.length := by simp [mkS, Str.length]
theorem mkS_inj {a b : List Nat} : mkS a = mkS b ↔ a = b := by
  constructor
  · intro h; have := congrArg (fun x => x.cps.toList) h; simpa [mkS] using this
  · rintro rfl; rfl
theorem mkS_beq (a b : List Nat) : (mkS a == mkS b) = (a == b) := by
  by_cases h : a = b
  · subst h; simp
  · rw [beq_eq_false_iff_ne.mpr h, beq_eq_false_iff_ne]; exact fun q => h (mkS_inj.mp q)
theorem Ev.tx {x : Str} {l : List Nat} {k pos} (h : x = mkS l := by rfl) : Ev C ρ μ (.Constant (.str x) k pos) (ptx l) := by subst h; exact Ev.str
theorem Ev.catS {l r : Expr} {pos : Pos} {i j : List Nat} (hl : Ev C ρ μ l (ptx i)) (hr : Ev C ρ μ r (ptx j)) (hs : i.length + j.length ≤ 1000) : Ev C ρ μ (.BinOp l .Add r pos) (ptx (i ++ j)) := by
  have := Ev.cat (pos := pos) hl hr (by rw [mkS_length, mkS_length]; exact Nat.le_trans hs (by decide))
  rwa [mkS_append] at this
theorem Ev.eqS {l r : Expr} {pos : Pos} {i j : List Nat} (hl : Ev C ρ μ l (ptx i)) (hr : Ev C ρ μ r (ptx j)) (hm : behindInMarks .Eq r = false := by with_unfolding_all rfl) : Ev C ρ μ (.Compare l [.Eq] [r] pos) (pbool (i == j)) := by
  have := Ev.seq (pos := pos) hl hr hm
  rwa [mkS_beq] at this
theorem Ev.neS {l r : Expr} {pos : Pos} {i j : List Nat} (hl : Ev C ρ μ l (ptx i)) (hr : Ev C ρ μ r (ptx j)) (hm : behindInMarks .NotEq r = false := by with_unfolding_all rfl) : Ev C ρ μ (.Compare l [.NotEq] [r] pos) (pbool (i != j)) := by
  have := Ev.sne (pos := pos) hl hr hm
  rwa [show (mkS i != mkS j) = (i != j) from by unfold bne; rw [mkS_beq]] at this
/-- a subscript, by its value and index -/
theorem Ev.subs {value slice : Expr} {pos : Pos} {P Q R : Pd B} (hv : Ev C ρ μ value P) (hs : Ev C ρ μ slice Q)
    (h : ∀ F s o i, Frm C F s.heap ρ μ → P.p F s.heap o → Q.p F s.heap i → wpAny (md B) C.A (subscriptTail value slice o i) (fun v s' => Stp B s s' ∧ R.p F s'.heap v) noE s) : Ev C ρ μ (.Subscript value slice pos) R := fun F s f =>
  Subscript_ (wpMono (hv F s f) fun o s₁ ⟨p₁, h₁⟩ => wpMono (hs F s₁ (f.step p₁.p)) fun i s₂ ⟨p₂, h₂⟩ =>
    wpMono (h F s₂ o i ((f.step p₁.p).step p₂.p) (P.mono h₁ p₂.p.any) h₂) fun v s₃ ⟨p₃, h₃⟩ => ⟨(p₁.trans p₂).trans p₃, h₃⟩)
theorem tail_any' {A : Around} {value slice : Expr} {o i : Value} {T id : String} {s : Shared} {Q : Value → Shared → Prop} {E : Value → Shared → Prop} (hT : s.TypeIs o T)
    (hl : typeLookup (.type T) "__getitem__" = pure (some (.builtin id))) (h : wpAny (md B) A (getItem o i) Q E s)
    (hs : subscripted slice false o i = operate [o, i] (getItem o i)) : wpAny (md B) A (subscriptTail value slice o i) Q E s := tail_any hT hl h hs
theorem IsSeq.isList {h : Heap} {a : Addr} {vs : List Value} (x : IsSeq h "list" a vs) : h.IsList a vs.toArray := let ⟨n, e⟩ := x; ⟨_, e, rfl, n, rfl⟩
theorem IsSeq.isTup {h : Heap} {a : Addr} {vs : List Value} (x : IsSeq h "tuple" a vs) : IsTup h a vs.toArray := let ⟨n, e⟩ := x; ⟨_, e, rfl, n, rfl⟩
theorem seqIndex_nat {k : Int} {n : Nat} (h0 : 0 ≤ k) (h1 : k.toNat < n) : seqIndex? k n = some k.toNat := by
  have hn : ¬ k < 0 := by lia
  have h2 : k < (n : Int) := by lia
  simp [seqIndex?, hn, h0, h2]
theorem reps_get {F : Addr → Prop} {h : Heap} : ∀ {vs : List Value} {ds : List D}, reps F h vs ds → ∀ {i : Nat} {d : D}, ds[i]? = some d → ∃ v, vs[i]? = some v ∧ rep F h v d
  | v :: _, d :: _, x, 0, _, e => by simp only [reps] at x; cases e; exact ⟨v, rfl, x.1⟩
  | _ :: _, _ :: _, x, i + 1, _, e => by simp only [reps] at x; simpa using reps_get x.2 (i := i) (by simpa using e)
  | [], [], _, _, _, e => by simp at e
  | [], _ :: _, x, _, _, _ => by simp [reps] at x
  | _ :: _, [], x, _, _, _ => by simp [reps] at x
theorem reps_length {F : Addr → Prop} {h : Heap} : ∀ {vs : List Value} {ds : List D}, reps F h vs ds → vs.length = ds.length
  | _ :: _, _ :: _, x => by simp only [reps] at x; simp [reps_length x.2]
  | [], [], _ => rfl
  | [], _ :: _, x => by simp [reps] at x
  | _ :: _, [], x => by simp [reps] at x
theorem lst_of {F : Addr → Prop} {h : Heap} {l : List D} {v : Value} (x : (pd (B := B) (.lst l)).p F h v) : ∃ a vs, v = .ref a ∧ ¬ F a ∧ IsSeq h "list" a vs ∧ reps F h vs l := by simpa [pd, rep] using x
theorem tup_of {F : Addr → Prop} {h : Heap} {l : List D} {v : Value} (x : (pd (B := B) (.tup l)).p F h v) : ∃ a vs, v = .ref a ∧ ¬ F a ∧ IsSeq h "tuple" a vs ∧ reps F h vs l := by simpa [pd, rep] using x
/-- is the slice a plain index? -/
noncomputable def plainIx : Expr → Bool
  | .Slice .. => false
  | _ => true
theorem subscripted_ix {slice : Expr} {o i : Value} (h : plainIx slice = true) : subscripted slice false o i = operate [o, i] (getItem o i) := by
  cases slice <;> first | rfl | cases h
theorem Ev.ixL {value slice : Expr} {pos : Pos} {l : List D} {k : Int} {d : D} (hv : Ev C ρ μ value (pd (.lst l))) (hs : Ev C ρ μ slice (pint k)) (h0 : 0 ≤ k) (hk : k < 2 ^ 63) (hd : l[k.toNat]? = some d) (hp : plainIx slice = true := by rfl) :
    Ev C ρ μ (.Subscript value slice pos) (pd d) := Ev.subs hv hs fun F s o i f ho hi => by
  obtain ⟨a, vs, rfl, hF, hq, hr⟩ := lst_of ho
  obtain ⟨t, rfl⟩ := int_of hi
  obtain ⟨v, hv, hr⟩ := reps_get hr hd
  exact tail_any' hq.isList.typeIs slot_list_getitem.lookup (wpAny_getItem_list hq.isList h0 hk (by simpa using hv) ⟨.refl, hr⟩) (subscripted_ix hp)
theorem Ev.ixT {value slice : Expr} {pos : Pos} {l : List D} {k : Int} {d : D} (hv : Ev C ρ μ value (pd (.tup l))) (hs : Ev C ρ μ slice (pint k)) (h0 : 0 ≤ k) (hk : k < 2 ^ 63) (hd : l[k.toNat]? = some d) (hp : plainIx slice = true := by rfl) :
    Ev C ρ μ (.Subscript value slice pos) (pd d) := Ev.subs hv hs fun F s o i f ho hi => by
  obtain ⟨a, vs, rfl, hF, hq, hr⟩ := tup_of ho
  obtain ⟨t, rfl⟩ := int_of hi
  obtain ⟨v, hv, hr⟩ := reps_get hr hd
  have hlt : k.toNat < vs.length := by
    rcases Nat.lt_or_ge k.toNat vs.length with q | q
    · exact q
    · rw [List.getElem?_eq_none q] at hv; cases hv
  exact tail_any' hq.isTup.typeIs slot_tuple_getitem.lookup (getItem_tuple hq.isTup (by lia) hk (seqIndex_nat h0 (by simpa using hlt)) (by simpa using hv) ⟨.refl, hr⟩) (subscripted_ix hp)
theorem Ev.ixS {value slice : Expr} {pos : Pos} {l : List Nat} {k : Int} {c : Nat} (hv : Ev C ρ μ value (ptx l)) (hs : Ev C ρ μ slice (pint k)) (h0 : 0 ≤ k) (hk : k < 2 ^ 63) (hd : l[k.toNat]? = some c) (hp : plainIx slice = true := by rfl) :
    Ev C ρ μ (.Subscript value slice pos) (ptx [c]) := Ev.subs hv hs fun F s o i f ho hi => by
  obtain ⟨u, rfl⟩ := str_of ho
  obtain ⟨t, rfl⟩ := int_of hi
  have hlt : k.toNat < l.length := by
    rcases Nat.lt_or_ge k.toNat l.length with q | q
    · exact q
    · rw [List.getElem?_eq_none q] at hd; cases hd
  refine tail_any' (typeIs_str s _ _) slot_str_getitem.lookup (getItem_str (c := c) (by simp; lia) ?_ ⟨.toks, of_str⟩) (subscripted_ix hp)
  rw [mkS_length, seqIndex_nat h0 hlt]
  simpa [mkS] using hd
end Mine
open PySem PySem.W PyProof.Rows
set_option Elab.async false
set_option maxRecDepth 100000
set_option linter.unusedVariables false
set_option linter.unusedSimpArgs false
namespace Mine
theorem setGen_heap (s : Shared) (g : Nat) (x : GenState) : (s.setGen g x).heap = s.heap := rfl
theorem runs_size {M : Model} {Γ : Ctx} {p : Pos} {t : Sem Fin} {fs : List Frame} {s s' : Shared} {e : End} (h : Runs M Γ p t fs s e s') : s.heap.objs.size ≤ s'.heap.objs.size := by
  induction h with
  | update _ _ ih => rw [Heap.size_after_update] at ih; exact ih
  | alloc _ ih => rw [Heap.size_push] at ih; lia
  | _ => first | exact Nat.le_refl _ | assumption | ((try simp only [setGen_heap] at *); lia)
theorem wakes_size {M : Model} {Γ : Ctx} {p : Pos} {g : Nat} {r : Resume} {s s' : Shared} {res : GenResult} (h : Wakes M Γ p g r s res s') : s.heap.objs.size ≤ s'.heap.objs.size := by
  unfold Wakes at h
  split at h
  · exact h.elim
  · split at h
    · obtain ⟨e₁, s₁, h1, _, _, rfl⟩ := h; have := runs_size h1; exact this
    · obtain ⟨_, rfl⟩ := h; exact Nat.le_refl _
    · obtain ⟨_, rfl⟩ := h; exact Nat.le_refl _
  · obtain ⟨e₁, s₁, h1, _, _, rfl⟩ := h; have := runs_size h1; exact this
  · obtain ⟨_, rfl⟩ := h; exact Nat.le_refl _
  · obtain ⟨_, rfl⟩ := h; exact Nat.le_refl _
/-- the heap never loses room -/
theorem wp_size {α : Type} (M : Model) (Γ : Ctx) (t : Sem α) : ∀ {Q : α → Pos → Shared → Prop} {E : Value → Pos → Shared → Prop} {p : Pos} {s : Shared}, Sem.wp M Γ t Q E p s →
    Sem.wp M Γ t (fun a p' s' => Q a p' s' ∧ s.heap.objs.size ≤ s'.heap.objs.size) (fun e p' s' => E e p' s' ∧ s.heap.objs.size ≤ s'.heap.objs.size) p s := by
  induction t with
  | pure x => exact fun h => ⟨h, Nat.le_refl _⟩
  | raise v => exact fun h => ⟨h, Nat.le_refl _⟩
  | unsupported | finish | yield | fork | await | register => exact id
  | rule _ k ih | «at» _ k ih | loadIfAlive _ k ih | point _ k ih | fresh k ih | ask k ih | os _ _ k ih | handled _ k ih | newGen _ k ih | stack k ih | thread k ih => exact fun h => ih _ h
  | alloc o k ih =>
    intro Q E p s h
    refine Sem.wp_mono M Γ _ (fun a p' s' q => ⟨q.1, ?_⟩) (fun a p' s' q => ⟨q.1, ?_⟩) _ _ (ih _ h)
    · have := q.2; simp only [Heap.size_push] at this; lia
    · have := q.2; simp only [Heap.size_push] at this; lia
  | load a _ k ih | genState a k ih => exact fun ⟨o, ho, h⟩ => ⟨o, ho, ih _ h⟩
  | choose _ _ k ih => exact fun ⟨ha, h⟩ => ⟨ha, ih _ h⟩
  | update a _ f k ih =>
    intro Q E p s ⟨ha, h⟩
    refine ⟨ha, Sem.wp_mono M Γ _ (fun a p' s' q => ⟨q.1, ?_⟩) (fun a p' s' q => ⟨q.1, ?_⟩) _ _ (ih _ h)⟩
    · have := q.2; simp only [Heap.size_after_update] at this; exact this
    · have := q.2; simp only [Heap.size_after_update] at this; exact this
  | call c h g l k ih =>
    intro Q E p s ⟨r, s₁, hr, hk⟩
    have hz := runs_size hr
    exact ⟨r, s₁, hr, Sem.wp_mono M Γ _ (fun a p' s' q => ⟨q.1, Nat.le_trans hz q.2⟩) (fun a p' s' q => ⟨q.1, Nat.le_trans hz q.2⟩) _ _ (ih _ hk)⟩
  | resume g r l k ih =>
    intro Q E p s ⟨res, s₁, hr, hk⟩
    have hz := wakes_size hr
    exact ⟨res, s₁, hr, Sem.wp_mono M Γ _ (fun a p' s' q => ⟨q.1, Nat.le_trans hz q.2⟩) (fun a p' s' q => ⟨q.1, Nat.le_trans hz q.2⟩) _ _ (ih _ hk)⟩
theorem wpAny_size {α : Type} {M : Model} {A : Around} {t : Sem α} {Q : α → Shared → Prop} {E : Value → Shared → Prop} {s : Shared} (h : wpAny M A t Q E s) :
    wpAny M A t (fun a s' => Q a s' ∧ s.heap.objs.size ≤ s'.heap.objs.size) (fun e s' => E e s' ∧ s.heap.objs.size ≤ s'.heap.objs.size) s := fun Γ p hΓ => wp_size M Γ t (h Γ p hΓ)
theorem wpSize {α : Type} {M : Model} {A : Around} {t : Sem α} {Q Q' : α → Shared → Prop} {E : Value → Shared → Prop} {s : Shared} (h : wpAny M A t Q E s) (hQ : ∀ a s', Q a s' → s.heap.objs.size ≤ s'.heap.objs.size → Q' a s') : wpAny M A t Q' E s :=
  wpAny_mono (wpAny_size h) (fun a s' q => hQ a s' q.1 q.2) fun _ _ q => q.1
variable {B : Bs}
theorem Pres.extBut {F : Addr → Prop} {h h' : Heap} {a : Addr} (hx : Heap.ExtBut a h h') (hp : ∀ o, h.get? a = some o → plainObj o ∧ F a) (hs : h.objs.size ≤ h'.objs.size) : Pres B F h h' := by
  refine ⟨fun b o' e' f _ => ?_, fun b o' e' f _ => ⟨o'.slots, hx b o' (fun q => by subst q; exact f (hp _ e').2) e'⟩, GoodTab.keep fun b o' e' f => ?_, hs⟩
  · by_cases hb : b = a
    · subst hb; obtain ⟨q, hF⟩ := hp _ e'; exact absurd hF (f.resolve_right q.1)
    · exact hx b o' hb e'
  · by_cases hb : b = a
    · subst hb; obtain ⟨q, hF⟩ := hp _ e'; rcases f with f | f
      · exact absurd f q.1
      · rw [q.2] at f; cases f
    · exact hx b o' hb e'
end Mine
open PySem PySem.W PyProof.Rows
set_option Elab.async false
set_option maxRecDepth 100000
set_option linter.unusedVariables false
set_option linter.unusedSimpArgs false
namespace Mine
variable {B : Bs} {C : Cx B} {ρ : Rho B} {μ : Mu B}
/-- the ints of a range iterator -/
noncomputable def rints (x step : Int) : Nat → List (Pd B)
  | 0 => []
  | n + 1 => pint x :: rints (x + step) step n
/-- an iterator at I that will yield these -/
inductive Its (F : Addr → Prop) (h : Heap) (I : Addr) (Ps : List (Pd B)) : Prop
  | list (l : Addr) (i : Nat) (vs : List Value) (it : h.IsListIter I l i) (hF : ¬ F l) (hl : IsSeq h "list" l vs) (hv : all2 F h Ps (vs.drop i))
  | tuple (l : Addr) (i : Nat) (vs : List Value) (it : h.IsTupleIter I l i) (hF : ¬ F l) (hl : IsSeq h "tuple" l vs) (hv : all2 F h Ps (vs.drop i))
  | range (x step : Int) (n : Nat) (it : IsRangeIter h I x n step) (hv : Ps = rints x step n)
theorem drop_cons {vs : List Value} {i : Nat} {v : Value} {r : List Value} (h : vs.drop i = v :: r) : vs[i]? = some v ∧ vs.drop (i + 1) = r := by
  constructor
  · have := congrArg (fun l => l[0]?) h; simpa using this
  · have := congrArg List.tail h; simpa using this
/-- a heap on which the iterator stands as it stood -/
theorem Its.keep {F F' : Addr → Prop} {h h' : Heap} {I : Addr} {Ps : List (Pd B)} (x : Its F h I Ps) (hI : ∀ o, h.get? I = some o → isVar o = false → h'.get? I = some o) (p : Pres B F h h') (up : ∀ b, F b → F' b) (new : ∀ b, F' b → F b ∨ h.objs.size ≤ b) : Its F' h' I Ps := by
  have wk : ∀ b, F' b → F b ∨ h.get? b = none := fun b q => (new b q).imp id fun q => Heap.get?_none_of_le q
  have out : ∀ l T vs, IsSeq h T l vs → ¬ F l → ¬ F' l := fun l T vs ⟨n, e⟩ hl q => (new l q).elim hl fun q => absurd (Heap.lt_size e) (Nat.not_lt.mpr q)
  cases x with
  | list l i vs it hF hl hv =>
    obtain ⟨o, e, hc, hd⟩ := it
    exact .list l i vs ⟨o, hI o e (var_fields hc hd), hc, hd⟩ (out _ _ _ hl hF) (hl.pres hF p) ((hv.weak wk).mono (p.weak up))
  | tuple l i vs it hF hl hv =>
    obtain ⟨o, e, hc, hd⟩ := it
    exact .tuple l i vs ⟨o, hI o e (var_fields hc hd), hc, hd⟩ (out _ _ _ hl hF) (hl.pres hF p) ((hv.weak wk).mono (p.weak up))
  | range x step n it hv => exact .range x step n (hI _ it rfl) hv
theorem Its.plain {F : Addr → Prop} {h : Heap} {I : Addr} {Ps : List (Pd B)} (x : Its F h I Ps) : ∃ o, h.get? I = some o ∧ plainObj o ∧ isVar o = false := by
  cases x with
  | list l i vs it hF hl hv => obtain ⟨o, e, hc, hd⟩ := it; exact ⟨o, e, plain_cls hc (by decide), var_fields hc hd⟩
  | tuple l i vs it hF hl hv => obtain ⟨o, e, hc, hd⟩ := it; exact ⟨o, e, plain_cls hc (by decide), var_fields hc hd⟩
  | range x step n it hv => exact ⟨_, it, plain_cls rfl (by decide), rfl⟩
theorem seq_isTuple {h : Heap} {a : Addr} {vs : List Value} (x : IsSeq h "tuple" a vs) : h.IsTuple a vs.toArray := let ⟨n, e⟩ := x; ⟨_, e, rfl, n, rfl⟩
theorem Its.next {A : Around} {F : Addr → Prop} {s : Shared} {I : Addr} {P : Pd B} {Ps : List (Pd B)} (x : Its F s.heap I (P :: Ps)) (hF : F I) :
    wpAny (md B) A (pyNext (.ref I)) (fun r s' => ∃ v, r = some v ∧ Rest s s' ∧ Heap.SameBut I s.heap s'.heap ∧ P.p F s'.heap v ∧ Its F s'.heap I Ps) noE s := by
  obtain ⟨o, e, hp, _⟩ := x.plain
  cases x with
  | list l i vs it hl hq hv =>
    cases hd : vs.drop i with
    | nil => rw [hd] at hv; exact hv.elim
    | cons v r =>
      rw [hd] at hv
      obtain ⟨h1, h2⟩ := drop_cons hd
      refine wpAny_pyNext_list_item it hq.isList (by simpa using h1) fun h' it' hs => ⟨v, rfl, ⟨rfl, rfl, rfl⟩, hs, P.mono hv.1 (.sameBut hs e hp hF), ?_⟩
      exact .list l (i + 1) vs it' hl (hq.sameBut hs fun q => hl (q ▸ hF)) (by rw [h2]; exact hv.2.mono (.sameBut hs e hp hF))
  | tuple l i vs it hl hq hv =>
    cases hd : vs.drop i with
    | nil => rw [hd] at hv; exact hv.elim
    | cons v r =>
      rw [hd] at hv
      obtain ⟨h1, h2⟩ := drop_cons hd
      refine wpAny_pyNext_tuple_item it (seq_isTuple hq) (by simpa using h1) fun h' it' hs => ⟨v, rfl, ⟨rfl, rfl, rfl⟩, hs, P.mono hv.1 (.sameBut hs e hp hF), ?_⟩
      exact .tuple l (i + 1) vs it' hl (hq.sameBut hs fun q => hl (q ▸ hF)) (by rw [h2]; exact hv.2.mono (.sameBut hs e hp hF))
  | range x step n it hv =>
    cases n with
    | zero => cases hv
    | succ n =>
      obtain ⟨rfl, rfl⟩ := List.cons.inj hv
      refine wpAny_pyNext_range_item it (by lia) fun h' it' hs => ⟨_, rfl, ⟨rfl, rfl, rfl⟩, hs, of_int, ?_⟩
      refine .range (x + step) step n ?_ rfl
      have : ((n + 1 : Nat) : Int) - 1 = (n : Int) := by lia
      rw [this] at it'
      exact it'
theorem Its.fin {A : Around} {F : Addr → Prop} {s : Shared} {I : Addr} (x : Its (B := B) F s.heap I []) (hh : A.handled = none) :
    wpAny (md B) A (pyNext (.ref I)) (fun r s' => r = none ∧ Rest s s' ∧ Heap.ExtBut I s.heap s'.heap) noE s := by
  cases x with
  | list l i vs it hl hq hv =>
    cases hd : vs.drop i with
    | cons v r => rw [hd] at hv; exact hv.elim
    | nil =>
      refine wpAny_pyNext_list_end hh it hq.isList (by simpa using hd) fun h' hx => ⟨rfl, ⟨rfl, rfl, rfl⟩, hx⟩
  | tuple l i vs it hl hq hv =>
    cases hd : vs.drop i with
    | cons v r => rw [hd] at hv; exact hv.elim
    | nil => refine wpAny_pyNext_tuple_end hh it (seq_isTuple hq) (by simpa using hd) fun h' hx => ⟨rfl, ⟨rfl, rfl, rfl⟩, hx⟩
  | range x step n it hv =>
    cases n with
    | succ n => cases hv
    | zero => exact wpAny_pyNext_range_end hh it (by decide) fun h' hx => ⟨rfl, ⟨rfl, rfl, rfl⟩, hx⟩
/-- an iterable, then its iterator, which is new -/
noncomputable def EvI {B : Bs} (C : Cx B) (ρ : Rho B) (μ : Mu B) (e : Expr) (Ps : List (Pd B)) : Prop :=
  ∀ F s, Frm C F s.heap ρ μ → wpAny (md B) C.A (eval e C.env) (fun x s₁ => wpAny (md B) C.A (pyIter x) (fun it s₂ => ∃ I, it = .ref I ∧ Stp B s s₂ ∧ s.heap.objs.size ≤ I ∧ I < s₂.heap.objs.size ∧ Its (fun b => F b ∨ b = I) s₂.heap I Ps) noE s₁) noE s
theorem EvI.list {e : Expr} {ds : List D} (h : Ev C ρ μ e (pd (.lst ds))) : EvI C ρ μ e (ds.map pd) := fun F s f => wpMono (h F s f) fun v s₁ ⟨p₁, h₁⟩ => by
  obtain ⟨a, vs, rfl, hF, hq, hr⟩ := lst_of h₁
  refine wpAny_pyIter_list hq.isList ⟨_, rfl, p₁.trans (.push _), p₁.p.size, by rw [Heap.size_push]; exact Nat.lt_succ_self _, ?_⟩
  have hn : ∀ b, (F b ∨ b = s₁.heap.objs.size) → F b ∨ s₁.heap.get? b = Option.none := fun b q => q.imp id fun q => Heap.get?_none_of_le (Nat.le_of_eq q.symm)
  have hF' : ¬ (F a ∨ a = s₁.heap.objs.size) := fun q => (hn a q).elim hF fun z => (by obtain ⟨n, e⟩ := hq; rw [z] at e; cases e)
  exact .list a 0 vs ⟨_, push_get rfl, rfl, rfl⟩ hF' (hq.pres hF (B := B) (.push _)) (all2.pds.mpr ((hr.weak hn).mono (Pres.push (B := B) _)))
theorem EvI.tuple {e : Expr} {ds : List D} (h : Ev C ρ μ e (pd (.tup ds))) : EvI C ρ μ e (ds.map pd) := fun F s f => wpMono (h F s f) fun v s₁ ⟨p₁, h₁⟩ => by
  obtain ⟨a, vs, rfl, hF, hq, hr⟩ := tup_of h₁
  refine wpAny_pyIter_tuple (seq_isTuple hq) ⟨_, rfl, p₁.trans (.push _), p₁.p.size, by rw [Heap.size_push]; exact Nat.lt_succ_self _, ?_⟩
  have hn : ∀ b, (F b ∨ b = s₁.heap.objs.size) → F b ∨ s₁.heap.get? b = Option.none := fun b q => q.imp id fun q => Heap.get?_none_of_le (Nat.le_of_eq q.symm)
  have hF' : ¬ (F a ∨ a = s₁.heap.objs.size) := fun q => (hn a q).elim hF fun z => (by obtain ⟨n, e⟩ := hq; rw [z] at e; cases e)
  exact .tuple a 0 vs ⟨_, push_get rfl, rfl, rfl⟩ hF' (hq.pres hF (B := B) (.push _)) (all2.pds.mpr ((hr.weak hn).mono (Pres.push (B := B) _)))
/-- a range as it lies -/
noncomputable def prange (a b c : Int) : Pd B where
  p F h v := ∃ r t u w, v = .ref r ∧ ¬ F r ∧ IsRange h r a b c t u w
  mono := fun ⟨r, t, u, w, e, hF, x⟩ p => ⟨r, t, u, w, e, hF, p.obj _ _ x (.inl hF) (.inl rfl)⟩
  weak := fun ⟨r, t, u, w, e, hF, x⟩ hw => ⟨r, t, u, w, e, fun q => (hw r q).elim hF fun z => (by rw [IsRange, z] at x; cases x), x⟩
theorem EvI.range {e : Expr} {a b c : Int} {n : Nat} (h : Ev C ρ μ e (prange a b c)) (hs : Builtin.Range.small a b c = true) (hn : Builtin.Range.rangeSize a b c = n) : EvI C ρ μ e (rints a c n) := fun F s f => wpMono (h F s f) fun v s₁ ⟨p₁, h₁⟩ => by
  obtain ⟨r, t, u, w, rfl, hF, x⟩ := h₁
  refine wpAny_pyIter_range x hs ⟨_, rfl, p₁.trans (.push _), p₁.p.size, by rw [Heap.size_push]; exact Nat.lt_succ_self _, ?_⟩
  exact .range a c n (by rw [hn]; exact push_get rfl) rfl
/-- a target takes a value -/
noncomputable def Asg {B : Bs} (C : Cx B) (ρ : Rho B) (μ : Mu B) (t : Expr) (P : Pd B) (ρ' : Rho B) : Prop :=
  ∀ F s v, Frm C F s.heap ρ μ → P.p F s.heap v → wpAny (md B) C.A (assign t C.env v) (fun _ s' => Rest s s' ∧ Frm C F s'.heap ρ' μ ∧ Pres B (Mut C μ) s.heap s'.heap) noE s
theorem Asg.name {x : Str} {pos : Pos} {P : Pd B} (hk : Sto C x) : Asg C ρ μ (.Name x pos) P (upd ρ x P) := fun F s v f hv => by
  show wpAny (md B) C.A (do standAt pos; bindName C.env x v) _ _ _
  exact wpAny_bind (wpAny_standAt (wpAny_bindName (st_any f hv hk)))
noncomputable def Fo {B : Bs} (C : Cx B) (ρ : Rho B) (μ : Mu B) (Ps : List (Pd B)) (t : Expr) (body : List Stmt) (o : Out B) : Prop :=
  ∀ F s I, Frm C F s.heap ρ μ → F I → ¬ Mut C μ I → C.h₀.get? I = none → Its F s.heap I Ps → codeAny (md B) C.A (.forLoop t (.ref I) body [] C.env)
    (fun r s' => match r with | .ok f => Rest s s' ∧ Pres B (fun b => Mut C μ b ∨ b = I) s.heap s'.heap ∧ OutM C F μ s.heap o f s'.heap | .error _ => False) s
/-- no tuple of the iterator's own is let go -/
noncomputable def plainT : Expr → Bool
  | .Tuple .. | .List .. => false
  | _ => true
theorem letOwned {A : Around} {F : Addr → Prop} {s : Shared} {t : Expr} {I : Addr} {v : Value} {Ps : List (Pd B)} {Q : Unit → Shared → Prop} {E : Value → Shared → Prop} (x : Its F s.heap I Ps) (h : Q () s) : wpAny (md B) A (letOwnedTupleGo t (.ref I) v) Q E s := by
  have key : ∀ n, (∃ o vs, s.heap.get? I = some o ∧ o.cls = .type n ∧ o.data = .fields vs) → (["enumerate", "zip", "dict_itemiterator", "dict_reverseitemiterator", "odict_iterator", "itertools.zip_longest", "itertools.pairwise"].contains n) = false → wpAny (md B) A (letOwnedTupleGo t (.ref I) v) Q E s := by
    intro n ⟨o, vs, ho, hc, hd⟩ hn
    cases t
    all_goals first
      | exact wpAny_pure h
      | (cases v with
         | ref a =>
           refine wpAny_bind (wpAny_load ho ?_)
           rw [hc, hd]
           simp only [hn, Bool.false_and, Bool.false_eq_true, if_false]
           exact wpAny_pure h
         | _ => exact wpAny_pure h)
  cases x with
  | list l i vs it _ _ _ => obtain ⟨o, e, hc, hd⟩ := it; exact key _ ⟨o, _, e, hc, hd⟩ (by decide)
  | tuple l i vs it _ _ _ => obtain ⟨o, e, hc, hd⟩ := it; exact key _ ⟨o, _, e, hc, hd⟩ (by decide)
  | range x step n it _ => exact key _ ⟨_, _, it, rfl, rfl⟩ (by decide)
theorem for_turn {t : Expr} {body : List Stmt} {env : Env} {A : Around} {it : Value} {R : Result → Shared → Prop} {s : Shared}
    (h : wpAny (md B) A (pyNext it) (fun r s₁ => match r with
      | none => R (.ok .next) s₁
      | some v => wpAny (md B) A (letOwnedTupleGo t it v) (fun _ s₂ => wpAny (md B) A (assign t env v) (fun _ s₂ => wpAny (md B) A (execs body env) (fun f s₃ => match f with
          | .next | .cont => codeAny (md B) A (.forLoop t it body [] env) R s₃
          | .brk => R (.ok .next) s₃
          | .ret v => R (.ok (.ret v)) s₃) noE s₂) noE s₂) noE s₁) noE s) : codeAny (md B) A (.forLoop t it body [] env) R s := by
  refine codeAny_of_tree ?_
  show wpAny _ A ((forTurn t it body [] env).onRaise (fun x => do noteFrame x env; theTreesLotGoes x)) _ _ s
  refine wpAny_onRaise (wpAny_mono (E := noE) (Q := fun fin s' => match fin with | .done f => R (.ok f) s' | .again c' => c'.quiet = true ∧ codeAny (md B) A c' R s') ?_ (fun _ _ x => x) fun _ _ x => x.elim)
  simp only [forTurn]
  refine wpAny_bind (wpAny_standAt (wpAny_bind (wpAny_onRaise (wpAny_mono (E := noE) h (fun r s₁ h₁ => ?_) fun _ _ x => x.elim))))
  cases r with
  | none => exact wpAny_pure ⟨rfl, codeAny_block (wpAny_execs_nil h₁)⟩
  | some v =>
    refine wpAny_bind (wpMono h₁ fun _ s₂ h₂ => wpAny_bind (wpMono h₂ fun _ s₂ h₂ => wpAny_bind (wpMono h₂ fun f s₃ h₃ => ?_)))
    cases f with
    | next => exact wpAny_pure ⟨rfl, h₃⟩
    | cont => exact wpAny_pure ⟨rfl, h₃⟩
    | brk => exact wpAny_pure h₃
    | ret v => exact wpAny_pure h₃
/-- a change of a thing that the frame does not own -/
theorem Frm.touch {F : Addr → Prop} {h h' : Heap} {I : Addr} (f : Frm C F h ρ μ) (hx : Heap.ExtBut I h h') (hz : h.objs.size ≤ h'.objs.size) (hF : F I) (hm : ¬ Mut C μ I) (h0 : C.h₀.get? I = Option.none) (hp : ∀ o, h.get? I = some o → plainObj o)
    (hcell : ∀ c v, h.IsCell c v → I ≠ c) : Frm C F h' ρ μ := by
  have pF : Pres B F h h' := .extBut hx (fun o e => ⟨hp o e, hF⟩) hz
  have p0 : Pres B none' C.h₀ h' := f.pres.then (.extBut (F := fun b => b = I) hx (fun o e => ⟨hp o e, rfl⟩) hz) fun b q => by rw [q]; exact h0
  have cell : ∀ c v, h.IsCell c v → h'.IsCell c v := fun c v x => let ⟨o, e, d⟩ := x; ⟨o, hx c o (hcell c v ⟨o, e, d⟩).symm e, d⟩
  refine { base := f.base, pres := p0, kind := f.kind, glob := f.glob, blt := f.blt, fl := f.fl, lt := fun b q => Nat.lt_of_lt_of_le (f.lt b q) hz, fresh := f.fresh, stk := f.stk, loc := ?_, cel := ?_, kinds := f.kinds, own := ?_, inj := f.inj, lst := ?_ }
  · obtain ⟨m, ⟨o, es, ep, e, r⟩, hm'⟩ := f.loc
    exact ⟨m, ⟨o, es, ep, hx _ _ (fun q => hm (.inl q.symm)) e, r⟩, fun x P q k => let ⟨v, a, b⟩ := hm' x P q k; ⟨v, a, P.mono b pF⟩⟩
  · intro x P q k
    obtain ⟨c, v, a, e, b⟩ := f.cel x P q k
    exact ⟨c, v, a, cell _ _ e, P.mono b pF⟩
  · intro x q k
    obtain ⟨c, v, a, b, d, e⟩ := f.own x q k
    exact ⟨c, v, a, b, d, cell _ _ e⟩
  · intro a Ps q
    obtain ⟨x, y, vs, ⟨n, z⟩, w⟩ := f.lst a Ps q
    exact ⟨x, y, vs, ⟨n, hx _ _ (fun r => hm (.inr (.inr (by rw [← r, q]; rfl)))) z⟩, w.mono pF⟩
theorem Its.apart {F : Addr → Prop} {h : Heap} {I : Addr} {Ps : List (Pd B)} (x : Its F h I Ps) : (∀ c v, h.IsCell c v → I ≠ c) ∧ (∀ T a vs, IsSeq h T a vs → I ≠ a) ∧ (∀ L m, h.Ns L m → I ≠ L) := by
  have key : (∃ o vs, h.get? I = some o ∧ o.data = .fields vs) → (∀ c v, h.IsCell c v → I ≠ c) ∧ (∀ T a vs, IsSeq h T a vs → I ≠ a) ∧ (∀ L m, h.Ns L m → I ≠ L) := by
    rintro ⟨o, vs, e, hd⟩
    refine ⟨?_, ?_, ?_⟩
    · rintro c v ⟨o', e', hd'⟩ rfl; rw [e] at e'; cases e'; rw [hd] at hd'; cases hd'
    · rintro T a vs ⟨n, e'⟩ rfl; rw [e] at e'; cases e'; cases hd
    · rintro L m ⟨o', _, _, e', hd', _⟩ rfl; rw [e] at e'; cases e'; rw [hd] at hd'; cases hd'
  cases x with
  | list l i vs it _ _ _ => obtain ⟨o, e, hc, hd⟩ := it; exact key ⟨o, _, e, hd⟩
  | tuple l i vs it _ _ _ => obtain ⟨o, e, hc, hd⟩ := it; exact key ⟨o, _, e, hd⟩
  | range x step n it _ => exact key ⟨_, _, it, rfl⟩
theorem Frm.iterX {F : Addr → Prop} {h h' : Heap} {I : Addr} {Ps : List (Pd B)} (f : Frm C F h ρ μ) (x : Its F h I Ps) (hx : Heap.ExtBut I h h') (hz : h.objs.size ≤ h'.objs.size) (hF : F I) (hm : ¬ Mut C μ I) (h0 : C.h₀.get? I = Option.none) : Frm C F h' ρ μ := by
  obtain ⟨o, e, hp, _⟩ := x.plain
  exact f.touch hx hz hF hm h0 (fun o' e' => by rw [e] at e'; cases e'; exact hp) x.apart.1
theorem Nxt.from {F F' : Addr → Prop} {h h₂ h' : Heap} {ρ' : Rho B} {μ' : Mu B} (n : Nxt C F μ h₂ ρ' μ' h' F') (hz : h.objs.size ≤ h₂.objs.size) : Nxt C F μ h ρ' μ' h' F' :=
  ⟨n.up, fun b q => (n.new b q).imp id fun q => Nat.le_trans hz q, n.frm, fun b q => (n.dom b q).imp id fun q => Nat.le_trans hz q⟩
theorem OutM.from {F : Addr → Prop} {h h₂ h' : Heap} {o : Out B} {f : Flow} (x : OutM C F μ h₂ o f h') (hz : h.objs.size ≤ h₂.objs.size) : OutM C F μ h o f h' := by
  cases o <;> cases f <;> first
    | exact x.elim
    | (obtain ⟨F', n⟩ := x; exact ⟨F', n.from hz⟩)
    | exact x
/-- all but the frame's own and I -/
theorem Pres.mutI {μ μ' : Mu B} {I : Addr} {h h₁ h₂ : Heap} (d : ∀ b, (μ' b).isSome = true → (μ b).isSome = true ∨ h.objs.size ≤ b) (x : Pres B (fun b => Mut C μ b ∨ b = I) h h₁) (y : Pres B (fun b => Mut C μ' b ∨ b = I) h₁ h₂) : Pres B (fun b => Mut C μ b ∨ b = I) h h₂ :=
  ⟨fun b o e f t => y.obj b o (x.obj b o e f t) (f.imp (fun n q => n (q.imp (fun q => q.back d e) id)) id) t, fun b o e f t => by obtain ⟨sl, e'⟩ := x.frm b o e f t; obtain ⟨sl', e''⟩ := y.frm b _ e' (fun q => f (q.imp (fun q => q.back d e) id)) t; exact ⟨sl', e''⟩, fun k b g => y.tab k b (x.tab k b g), Nat.le_trans x.size y.size⟩
theorem Fo.nil {t : Expr} {body : List Stmt} (hh : C.A.handled = Option.none) : Fo C ρ μ [] t body (.next ρ μ) := fun F s I f hF hm h0 x =>
  for_turn (wpSize (x.fin hh) fun r s₁ ⟨e, r₁, hx⟩ hz => by
    subst e
    obtain ⟨o, e, hp, _⟩ := x.plain
    exact ⟨r₁, .extBut hx (fun o' e' => by rw [e] at e'; cases e'; exact ⟨hp, .inr rfl⟩) hz, F, .same (f.iterX x hx hz hF hm h0)⟩)
theorem Fo.body {P : Pd B} {Ps : List (Pd B)} {t : Expr} {body : List Stmt} {ρ₁ : Rho B} {ob o : Out B} (ha : Asg C ρ μ t P ρ₁) (hb : Ex C ρ₁ μ body ob)
    (hk : ∀ (F : Addr → Prop) (s₂ s₃ : Shared) (I : Addr) (fl : Flow), F I → ¬ Mut C μ I → C.h₀.get? I = none → OutM C F μ s₂.heap ob fl s₃.heap → Pres B (Mut C μ) s₂.heap s₃.heap → I < s₂.heap.objs.size →
      (∀ F' : Addr → Prop, (∀ b, F b → F' b) → (∀ b, F' b → F b ∨ s₂.heap.objs.size ≤ b) → Its F' s₃.heap I Ps) →
      match fl with
      | .next | .cont => codeAny (md B) C.A (.forLoop t (.ref I) body [] C.env) (fun r s' => match r with | .ok f => Rest s₃ s' ∧ Pres B (fun b => Mut C μ b ∨ b = I) s₂.heap s'.heap ∧ OutM C F μ s₂.heap o f s'.heap | .error _ => False) s₃
      | .brk => OutM C F μ s₂.heap o .next s₃.heap
      | .ret v => OutM C F μ s₂.heap o (.ret v) s₃.heap) : Fo C ρ μ (P :: Ps) t body o := fun F s I f hF hm h0 x =>
  for_turn (wpMono (x.next hF) fun r s₁ ⟨v, e, r₁, hs, hv, x₁⟩ => by
    subst e
    obtain ⟨o₀, e₀, hp₀, _⟩ := x.plain
    have f₁ := f.iterX x hs.extBut (Nat.le_of_eq hs.1.symm) hF hm h0
    have p₁ : Pres B (fun b => Mut C μ b ∨ b = I) s.heap s₁.heap := .sameBut hs e₀ hp₀ (.inr rfl)
    refine letOwned x₁ (wpMono (ha F s₁ v f₁ hv) fun _ s₂ ⟨r₂, f₂, p₂⟩ => wpMono (hb F s₂ f₂) fun fl s₃ ⟨r₃, p₃, h₃⟩ => ?_)
    have p₁₂ : Pres B (fun b => Mut C μ b ∨ b = I) s.heap s₂.heap := p₁.trans (p₂.weak fun b q => .inl q)
    obtain ⟨o₁, e₁, _, hp₁⟩ := x₁.plain
    have hI2 := p₂.obj I o₁ e₁ (.inl hm) (.inl hp₁)
    have K := hk F s₂ s₃ I fl hF hm h0 h₃ p₃ (Heap.lt_size hI2) fun F' up new => x₁.keep (fun o e hp => by
        have := p₂.obj I o e (.inl hm) (.inl hp)
        exact p₃.obj I o this (.inl hm) (.inl hp)) ((p₂.trans p₃).weak fun b q => f.mutF q) up fun b q => (new b q).imp id fun q => Nat.le_trans p₂.size q
    have dm : ∀ b, (μ b).isSome = true → (μ b).isSome = true ∨ s.heap.objs.size ≤ b := fun b q => .inl q
    cases fl with
    | next =>
      refine codeAny_mono K fun r s' h => ?_
      cases r with
      | ok fl => exact ⟨((r₁.trans r₂).trans r₃).trans h.1, p₁₂.mutI dm h.2.1, h.2.2.from p₁₂.size⟩
      | error e => exact h
    | cont =>
      refine codeAny_mono K fun r s' h => ?_
      cases r with
      | ok fl => exact ⟨((r₁.trans r₂).trans r₃).trans h.1, p₁₂.mutI dm h.2.1, h.2.2.from p₁₂.size⟩
      | error e => exact h
    | brk => exact ⟨(r₁.trans r₂).trans r₃, p₁₂.trans (p₃.weak fun b q => .inl q), K.from p₁₂.size⟩
    | ret v => exact ⟨(r₁.trans r₂).trans r₃, p₁₂.trans (p₃.weak fun b q => .inl q), K.from p₁₂.size⟩)
theorem Fo.next {P : Pd B} {Ps : List (Pd B)} {t : Expr} {body : List Stmt} {ρ₁ ρ₂ : Rho B} {μ₂ : Mu B} {o : Out B} (ha : Asg C ρ μ t P ρ₁) (hb : Ex C ρ₁ μ body (.next ρ₂ μ₂)) (hr : Fo C ρ₂ μ₂ Ps t body o) : Fo C ρ μ (P :: Ps) t body o :=
  .body ha hb fun F s₂ s₃ I fl hF hm h0 h₃ p₃ hlt hx => by
    cases fl with
    | next =>
      obtain ⟨F', n⟩ := h₃
      refine codeAny_mono (hr F' s₃ I n.frm (n.up I hF) (fun q => ?_) h0 (hx F' n.up n.new)) fun r s' h => ?_
      · rcases q with q | q | q
        · exact hm (.inl q)
        · exact hm (.inr (.inl q))
        · exact (n.dom I q).elim (fun q => hm (.inr (.inr q))) fun q => Nat.not_lt.mpr q hlt
      · cases r with
        | ok fl => exact ⟨h.1, Pres.mutI n.dom (p₃.weak fun b q => .inl q) h.2.1, n.outM p₃.size h.2.2⟩
        | error e => exact h
    | _ => exact h₃.elim
theorem Fo.brk {P : Pd B} {Ps : List (Pd B)} {t : Expr} {body : List Stmt} {ρ₁ ρ₂ : Rho B} {μ₂ : Mu B} (ha : Asg C ρ μ t P ρ₁) (hb : Ex C ρ₁ μ body (.brk ρ₂ μ₂)) : Fo C ρ μ (P :: Ps) t body (.next ρ₂ μ₂) :=
  .body ha hb fun F s₂ s₃ I fl hF hm h0 h₃ p₃ hlt hx => by
    cases fl with
    | brk => exact h₃
    | _ => exact h₃.elim
theorem Fo.ret {P Q : Pd B} {Ps : List (Pd B)} {t : Expr} {body : List Stmt} {ρ₁ : Rho B} (ha : Asg C ρ μ t P ρ₁) (hb : Ex C ρ₁ μ body (.ret Q)) : Fo C ρ μ (P :: Ps) t body (.ret Q) :=
  .body ha hb fun F s₂ s₃ I fl hF hm h0 h₃ p₃ hlt hx => by
    cases fl with
    | ret v => exact h₃
    | _ => exact h₃.elim
theorem Ex1.for {t iter : Expr} {body : List Stmt} {pos : Pos} {Ps : List (Pd B)} {o : Out B} (hi : EvI C ρ μ iter Ps) (h : Fo C ρ μ Ps t body o) (hs : ∀ x, foldedSetIterable iter C.env x = pure x := by intro _; rfl) : Ex1 C ρ μ (.For t iter body [] pos) o := fun F s f =>
  wpAny_For (wpMono (hi F s f) fun x s₁ h₁ => wpMono h₁ fun it s₂ ⟨I, e, p₂, hI, hI', x₂⟩ => by
    subst e
    have hfree : s.heap.get? I = Option.none := Heap.get?_none_of_le hI
    have f₂ : Frm C (fun b => F b ∨ b = I) s₂.heap ρ μ := f.grow p₂.p (fun b q => q.imp id fun q => by rw [q]; exact hfree) (fun b q => .inl q) fun b q => q.elim (fun q => Nat.lt_of_lt_of_le (f.lt b q) p₂.p.size) fun q => by rw [q]; exact hI'
    have hm : ¬ Mut C μ I := fun q => Nat.lt_irrefl _ (Nat.lt_of_lt_of_le (f.lt I (f.mutF q)) hI)
    have h0 : C.h₀.get? I = Option.none := Heap.get?_none_of_le (Nat.le_trans f.pres.size hI)
    refine codeAny_mono (h _ s₂ I f₂ (.inr rfl) hm h0 x₂) fun r s' h => ?_
    cases r with
    | error e => exact h.elim
    | ok fl =>
      refine ⟨p₂.r.trans h.1, ⟨fun b o e f' t' => ?_, fun b o e f' t' => ?_, fun k b g => h.2.1.tab k b (p₂.p.tab k b g), Nat.le_trans p₂.p.size h.2.1.size⟩, ?_⟩
      · exact h.2.1.obj b o (p₂.p.obj b o e (.inl fun q => q) t') (f'.imp (fun n q => q.elim n fun q => by rw [q, hfree] at e; cases e) id) t'
      · obtain ⟨sl, e'⟩ := p₂.p.frm b o e (fun q => q) t'
        obtain ⟨sl', e''⟩ := h.2.1.frm b _ e' (fun q => q.elim f' fun q => by rw [q, hfree] at e; cases e) t'
        exact ⟨sl', e''⟩
      · have n : Nxt C F μ s.heap ρ μ s₂.heap (fun b => F b ∨ b = I) := ⟨fun b q => .inl q, fun b q => q.imp id fun q => by rw [q]; exact hI, f₂, fun b q => .inl q⟩
        exact n.outM p₂.p.size h.2.2) hs
end Mine
open PySem PySem.W PyProof.Rows
set_option Elab.async false
set_option maxRecDepth 100000
set_option linter.unusedVariables false
set_option linter.unusedSimpArgs false
namespace Mine
variable {B : Bs} {C : Cx B} {ρ : Rho B} {μ : Mu B}
noncomputable def clOf (cells : List (Str × Addr)) : List (Str × NameKind) → List (Str × Addr) → List (Str × Addr)
  | [], acc => acc
  | (n, k) :: r, acc => if k == .free then clOf cells r ((n, (cells.lookup n).getD 0) :: acc) else clOf cells r acc
theorem lookup_mem_nodup {α : Type} : ∀ {l : List (Str × α)} {p : Str × α}, (l.map (·.1)).Nodup → p ∈ l → l.lookup p.1 = some p.2
  | (n, k) :: r, p, hn, hp => by
    rw [List.map_cons, List.nodup_cons] at hn
    rcases List.mem_cons.mp hp with rfl | hp
    · simp [List.lookup_cons]
    · have : (p.1 == n) = false := beq_eq_false_iff_ne.mpr fun e => hn.1 (by rw [← e]; exact List.mem_map_of_mem (f := (·.1)) hp)
      rw [List.lookup_cons, this]
      exact lookup_mem_nodup hn.2 hp
theorem mem_clOf {cells : List (Str × Addr)} : ∀ {names : List (Str × NameKind)} {acc : List (Str × Addr)} {p : Str × Addr}, p ∈ clOf cells names acc → p ∈ acc ∨ ((p.1, NameKind.free) ∈ names ∧ p.2 = (cells.lookup p.1).getD 0)
  | [], _, _, h => .inl h
  | (n, k) :: r, acc, p, h => by
    unfold clOf at h
    split at h
    · rename_i hk
      rcases mem_clOf h with h | h
      · rcases List.mem_cons.mp h with rfl | h
        · exact .inr ⟨by rw [← eq_of_beq hk]; exact List.mem_cons_self, rfl⟩
        · exact .inl h
      · exact .inr ⟨List.mem_cons_of_mem _ h.1, h.2⟩
    · rcases mem_clOf h with h | h
      · exact .inl h
      · exact .inr ⟨List.mem_cons_of_mem _ h.1, h.2⟩
theorem closureFor_eq {scope : Scope} {env : Env} (h : ∀ n, (n, NameKind.free) ∈ scope.names → (env.cells.lookup n).isSome = true) : closureFor scope env = pure (clOf env.cells scope.names []) := by
  unfold closureFor
  generalize ([] : List (Str × Addr)) = acc
  generalize scope.names = names at h
  induction names generalizing acc with
  | nil => rfl
  | cons p r ih =>
    obtain ⟨n, k⟩ := p
    have ih' := fun acc => ih acc fun m hm => h m (List.mem_cons_of_mem _ hm)
    simp only [List.forIn_cons, bind_assoc] at ih' ⊢
    unfold clOf
    by_cases hk : k = .free
    · subst hk
      obtain ⟨c, hc⟩ := Option.isSome_iff_exists.mp (h n List.mem_cons_self)
      have e : cellOf env n = pure c := by unfold cellOf; rw [hc]
      simp only [e, hc, pure_bind, Option.getD_some]
      exact ih' _
    · have hk' : (k == NameKind.free) = false := by simpa using hk
      simp only [hk', Bool.false_eq_true, if_false, pure_bind]
      exact ih' _
theorem nodup_clOf {cells : List (Str × Addr)} {I : ∀ x y c, cells.lookup x = some c → cells.lookup y = some c → x = y} : ∀ {names : List (Str × NameKind)} {acc : List (Str × Addr)}, (names.map (·.1)).Nodup → (∀ n, (n, NameKind.free) ∈ names → (cells.lookup n).isSome = true) →
    (∀ p ∈ acc, p.1 ∉ names.map (·.1) ∧ cells.lookup p.1 = some p.2) → (acc.Pairwise fun x y => x.2 ≠ y.2) → (clOf cells names acc).Pairwise fun x y => x.2 ≠ y.2
  | [], _, _, _, _, h => h
  | (n, k) :: r, acc, hn, hf, ha, h => by
    rw [List.map_cons, List.nodup_cons] at hn
    unfold clOf
    split
    · rename_i hk
      obtain ⟨c, hc⟩ := Option.isSome_iff_exists.mp (hf n (by rw [← eq_of_beq hk]; exact List.mem_cons_self))
      refine nodup_clOf (I := I) hn.2 (fun m hm => hf m (List.mem_cons_of_mem _ hm)) (fun p hp => ?_) (List.pairwise_cons.mpr ⟨fun y hy e => ?_, h⟩)
      · rcases List.mem_cons.mp hp with rfl | hp
        · exact ⟨hn.1, by simp [hc]⟩
        · exact ⟨fun q => (ha p hp).1 (List.mem_cons_of_mem _ q), (ha p hp).2⟩
      · have e' : c = y.2 := by simpa [hc] using e
        have := I n y.1 c hc (by rw [e']; exact (ha y hy).2)
        exact (ha y hy).1 (by rw [← this]; exact List.mem_cons_self)
    · exact nodup_clOf (I := I) hn.2 (fun m hm => hf m (List.mem_cons_of_mem _ hm)) (fun p hp => ⟨fun q => (ha p hp).1 (List.mem_cons_of_mem _ q), (ha p hp).2⟩) h
theorem lookup_clOf {cells : List (Str × Addr)} {x : Str} : ∀ {names : List (Str × NameKind)} {acc : List (Str × Addr)}, ((x, NameKind.free) ∈ names ∨ (acc.lookup x).isSome = true) → ((clOf cells names acc).lookup x).isSome = true
  | [], _, h => h.resolve_left List.not_mem_nil
  | (n, k) :: r, acc, h => by
    unfold clOf
    split
    · rename_i hk
      apply lookup_clOf
      by_cases hx : x = n
      · right; subst hx; simp [List.lookup_cons]
      · rcases h with h | h
        · rcases List.mem_cons.mp h with h | h
          · cases h; exact absurd rfl hx
          · exact .inl h
        · right; rw [List.lookup_cons, show (x == n) = false from by simpa using hx]; exact h
    · rename_i hk
      apply lookup_clOf
      rcases h with h | h
      · rcases List.mem_cons.mp h with h | h
        · cases h; exact absurd (by rfl) hk
        · exact .inl h
      · exact .inr h
theorem lookup_cellsFrom_other : ∀ {names : List (Str × NameKind)} {n : Nat} {acc : List (Str × Addr)} {x : Str}, (x, NameKind.cell) ∉ names → (cellsFrom n names acc).lookup x = acc.lookup x
  | [], _, _, _, _ => rfl
  | (y, k) :: r, n, acc, x, h => by
    unfold cellsFrom
    split
    · rename_i hk
      rw [lookup_cellsFrom_other fun q => h (List.mem_cons_of_mem _ q), List.lookup_cons, show (x == y) = false from beq_eq_false_iff_ne.mpr fun e => h (by rw [e, ← eq_of_beq hk]; exact List.mem_cons_self)]
    · exact lookup_cellsFrom_other fun q => h (List.mem_cons_of_mem _ q)
theorem lookup_mapKey {α : Type} (f : Str → α → α) : ∀ (names : List (Str × α)) (x : Str), (names.map fun p => (p.1, f p.1 p.2)).lookup x = (names.lookup x).map (f x)
  | [], _ => rfl
  | (n, k) :: r, x => by
    rw [List.map_cons, List.lookup_cons, List.lookup_cons]
    by_cases hx : x = n
    · subst hx; simp
    · have hb : (x == n) = false := by simpa using hx
      simp only [hb]
      exact lookup_mapKey f r x
theorem lookup_relabel {env : Env} (he : env.scope.kind = .function) {names : List (Str × NameKind)} {x : Str} :
    (names.map fun (n, k) => if (k == NameKind.free && env.scope.kind == .function && env.kindOf n == some .cell) then (n, NameKind.cell) else (n, k)).lookup x = match names.lookup x with | some .free => (if env.kindOf x = some .cell then some .cell else some .free) | r => r := by
  have e : (fun (p : Str × NameKind) => match p with | (n, k) => if (k == NameKind.free && env.scope.kind == .function && env.kindOf n == some .cell) then (n, NameKind.cell) else (n, k)) = fun p => (p.1, (fun (n : Str) (k : NameKind) => if (k == NameKind.free && env.kindOf n == some .cell) then NameKind.cell else k) p.1 p.2) := by
    funext ⟨n, k⟩
    simp only [he]
    by_cases h1 : (k == NameKind.free && env.kindOf n == some NameKind.cell) = true
    · have h1' := h1
      rw [Bool.and_eq_true] at h1'
      simp [h1'.1, h1'.2]
    · rw [if_neg h1]
      rw [if_neg]
      intro q
      apply h1
      simpa using q
  rw [e]
  refine (lookup_mapKey (fun (n : Str) (k : NameKind) => if (k == NameKind.free && env.kindOf n == some .cell) then NameKind.cell else k) names x).trans ?_
  cases h : names.lookup x with
  | none => rfl
  | some k =>
    cases k <;> simp
    split <;> rfl
/-- the frame of a comprehension -/
noncomputable def compEnvX (env : Env) (scope : Scope) (L : Addr) : Env :=
  { scope := relabel scope env, locals := L, globals := env.globals, cells := cellsFrom (L + 1) scope.names (clOf env.cells scope.names []), qual := env.qual, func := none, code := env.code, frame := env.frame, builtins := env.builtins }
noncomputable def compC (C : Cx B) (scope : Scope) (L : Addr) (h₀ : Heap) : Cx B := { A := C.A, env := compEnvX C.env scope L, h₀ := h₀, stor := fun x => scope.names.lookup x == some .cell }
noncomputable def cRho (ρ : Rho B) (scope : Scope) : Rho B := fun x => match scope.names.lookup x with
  | some .free => ρ x
  | _ => none
theorem kindOf_comp {scope : Scope} {L : Addr} {h₀ : Heap} {x : Str} (he : C.env.scope.kind = .function) : (compC C scope L h₀).env.kindOf x = match scope.names.lookup x with | some .free => (if C.env.kindOf x = some .cell then some .cell else some .free) | r => r := lookup_relabel he
theorem Frm.forget {F : Addr → Prop} {h : Heap} {ρ' : Rho B} (f : Frm C F h ρ μ) (hs : ∀ x P, ρ' x = some P → ρ x = some P) : Frm C F h ρ' μ where
  base := f.base
  pres := f.pres
  kind := f.kind
  glob := f.glob
  blt := f.blt
  fl := f.fl
  lt := f.lt
  fresh := f.fresh
  stk := f.stk
  loc := let ⟨m, a, hm⟩ := f.loc; ⟨m, a, fun x P q => hm x P (hs x P q)⟩
  cel := fun x P q => f.cel x P (hs x P q)
  kinds := fun x P q => f.kinds x P (hs x P q)
  own := f.own
  inj := f.inj
  lst := f.lst
/-- the tests of a comprehension -/
inductive Tests (C : Cx B) (ρ : Rho B) (μ : Mu B) : List Expr → Bool → Prop
  | nil : Tests C ρ μ [] true
  | one {c : Expr} {b : Bool} (h : EvT C ρ μ c b) : Tests C ρ μ [c] b
theorem Tests.run {F : Addr → Prop} {s : Shared} {ifs : List Expr} {b : Bool} (x : Tests C ρ μ ifs b) (f : Frm C F s.heap ρ μ) :
    wpAny (md B) C.A (forIn ifs true fun c r => if r = true then do let ok ← isTrue c C.env (eval c C.env); pure (ForInStep.yield ok) else pure (ForInStep.yield r)) (fun v s' => Stp B s s' ∧ v = b) noE s := by
  cases x with
  | nil => exact wpAny_tests_nil ⟨.refl, rfl⟩
  | one h => exact wpAny_tests_one (h F s f)
inductive CompT (C : Cx B) (ρ : Rho B) (t : Expr) (ifs : List Expr) (elt : Expr) : List (Pd B) → List D → Prop
  | nil : CompT C ρ t ifs elt [] []
  | skip {P : Pd B} {Ps : List (Pd B)} {ds : List D} {ρ₁ : Rho B} (ha : Asg C ρ (fun _ => none) t P ρ₁) (hs : ∀ x P, ρ x = some P → ρ₁ x = some P) (ht : Tests C ρ₁ (fun _ => none) ifs false) (r : CompT C ρ t ifs elt Ps ds) : CompT C ρ t ifs elt (P :: Ps) ds
  | cons {P : Pd B} {Ps : List (Pd B)} {d : D} {ds : List D} {ρ₁ : Rho B} (ha : Asg C ρ (fun _ => none) t P ρ₁) (hs : ∀ x P, ρ x = some P → ρ₁ x = some P) (ht : Tests C ρ₁ (fun _ => none) ifs true) (he : Ev C ρ₁ (fun _ => none) elt (pd d)) (r : CompT C ρ t ifs elt Ps ds) : CompT C ρ t ifs elt (P :: Ps) (d :: ds)
theorem comp_turn {elt t iter : Expr} {ifs : List Expr} {scope : Scope} {pos : Pos} {A : Around} {it acc : Value} {env : Env} {R : Result → Shared → Prop} {s : Shared}
    (h : wpAny (md B) A (pyNext it) (fun r s₁ => match r with
      | none => R (.ok .next) s₁
      | some v => wpAny (md B) A (letOwnedTupleGo t it v) (fun _ s₂ => wpAny (md B) A (assign t env v) (fun _ s₂ =>
          wpAny (md B) A (forIn ifs true fun c r => if r = true then do let ok ← isTrue c env (eval c env); pure (ForInStep.yield ok) else pure (ForInStep.yield r)) (fun ok s₃ =>
            if ok = true then wpAny (md B) A (eval elt env) (fun x s₄ => wpAny (md B) A (call (.builtin "list.append") [acc, x]) (fun _ s₅ => codeAny (md B) A (.compLoop (.ListComp elt [⟨t, iter, ifs, 0⟩] scope pos) 0 it acc env) R s₅) noE s₄) noE s₃
            else codeAny (md B) A (.compLoop (.ListComp elt [⟨t, iter, ifs, 0⟩] scope pos) 0 it acc env) R s₃) noE s₂) noE s₂) noE s₁) noE s) :
    codeAny (md B) A (.compLoop (.ListComp elt [⟨t, iter, ifs, 0⟩] scope pos) 0 it acc env) R s := by
  refine codeAny_of_tree ?_
  show wpAny _ A ((compTurn (.ListComp elt [⟨t, iter, ifs, 0⟩] scope pos) 0 it acc env).onRaise (fun x => do noteFrame x env; theTreesLotGoes x)) _ _ s
  refine wpAny_onRaise (wpAny_mono (E := noE) (Q := fun fin s' => match fin with | .done f => R (.ok f) s' | .again c' => c'.quiet = true ∧ codeAny (md B) A c' R s') ?_ (fun _ _ x => x) fun _ _ x => x.elim)
  rw [compTurn_list]
  refine wpAny_bind (wpAny_standAt (wpAny_bind (wpMono h fun r s₁ h₁ => ?_)))
  cases r with
  | none => exact wpAny_pure h₁
  | some v =>
    refine wpAny_bind (wpMono h₁ fun _ s₂ h₂ => wpAny_bind (wpMono h₂ fun _ s₃ h₃ => wpAny_bind (wpMono h₃ fun ok s₄ h₄ => ?_)))
    cases ok with
    | true =>
      simp only [if_true] at h₄ ⊢
      exact wpAny_bind (wpAny_bind (wpMono h₄ fun x s₅ h₅ => wpAny_bind (wpMono h₅ fun _ s₆ h₆ => wpAny_pure (wpAny_pure ⟨rfl, h₆⟩))))
    | false =>
      simp only [Bool.false_eq_true, if_false] at h₄ ⊢
      exact wpAny_bind (wpAny_pure (wpAny_pure ⟨rfl, h₄⟩))
theorem reps_snoc {F : Addr → Prop} {h : Heap} {v : Value} {d : D} (hd : rep F h v d) : ∀ {vs : List Value} {ds : List D}, reps F h vs ds → reps F h (vs ++ [v]) (ds ++ [d])
  | [], [], _ => by simp only [List.nil_append, reps]; exact ⟨hd, trivial⟩
  | _ :: vs, _ :: ds, x => by simp only [List.cons_append, reps] at x ⊢; exact ⟨x.1, reps_snoc hd x.2⟩
  | [], _ :: _, x => by simp [reps] at x
  | _ :: _, [], x => by simp [reps] at x
theorem comp_loop {elt t iter : Expr} {ifs : List Expr} {scope : Scope} {pos : Pos} {I Da : Addr} (hh : C.A.handled = Option.none) {Ps : List (Pd B)} {ds : List D} (x : CompT C ρ t ifs elt Ps ds) :
    ∀ (F : Addr → Prop) (s : Shared) (vs : List Value) (dn : List D), Frm C F s.heap ρ (fun _ => Option.none) → F I → ¬ Mut C (fun _ => Option.none) I → C.h₀.get? I = Option.none → Its F s.heap I Ps →
      F Da → ¬ Mut C (fun _ => Option.none) Da → C.h₀.get? Da = Option.none → IsSeq s.heap "list" Da vs → reps F s.heap vs dn → dn.length + Ps.length ≤ sizeLine →
      codeAny (md B) C.A (.compLoop (.ListComp elt [⟨t, iter, ifs, 0⟩] scope pos) 0 (.ref I) (.ref Da) C.env)
        (fun r s' => match r with | .ok _ => Rest s s' ∧ Frm C F s'.heap ρ (fun _ => Option.none) ∧ ∃ vs', IsSeq s'.heap "list" Da vs' ∧ reps F s'.heap vs' (dn ++ ds) | .error _ => False) s := by
  induction x with
  | nil =>
    intro F s vs dn f hF hm h0 x hD hmD h0D hq hr hz
    refine comp_turn (wpSize (x.fin hh) fun r s₁ ⟨e, r₁, hx⟩ hz' => ?_)
    subst e
    obtain ⟨o, e, hp, _⟩ := x.plain
    have pF : Pres B F s.heap s₁.heap := .extBut hx (fun o' e' => by rw [e] at e'; cases e'; exact ⟨hp, hF⟩) hz'
    refine ⟨r₁, f.iterX x hx hz' hF hm h0, vs, ?_, by rw [List.append_nil]; exact hr.mono pF⟩
    obtain ⟨n, e'⟩ := hq
    exact ⟨n, hx _ _ (x.apart.2.1 _ _ _ ⟨n, e'⟩).symm e'⟩
  | @skip P Ps ds ρ₁ ha hs ht r ih =>
    intro F s vs dn f hF hm h0 x hD hmD h0D hq hr hz
    refine comp_turn (wpMono (x.next hF) fun r s₁ ⟨v, e, r₁, hs₁, hv, x₁⟩ => ?_)
    subst e
    obtain ⟨o, e, hp, _⟩ := x.plain
    have hqI := x.apart.2.1 _ _ _ hq
    have f₁ := f.iterX x hs₁.extBut (Nat.le_of_eq hs₁.1.symm) hF hm h0
    have p₁ : Pres B F s.heap s₁.heap := .sameBut hs₁ e hp hF
    refine letOwned x₁ (wpMono (ha F s₁ v f₁ hv) fun _ s₂ ⟨r₂, f₂, p₂⟩ => wpMono (ht.run f₂) fun ok s₃ ⟨p₃, e₃⟩ => ?_)
    subst e₃
    simp only [Bool.false_eq_true, if_false]
    have q₂ : Pres B F s₁.heap s₂.heap := p₂.weak fun b q => f.mutF q
    have q₃ : Pres B F s₂.heap s₃.heap := p₃.p.any
    have hq₃ : IsSeq s₃.heap "list" Da vs := ((hq.sameBut hs₁ hqI.symm).pres hmD p₂).pres (fun q => q) p₃.p
    have x₃ : Its F s₃.heap I Ps := x₁.keep (fun o e hp => p₃.p.obj _ _ (p₂.obj I o e (.inl hm) (.inl hp)) (.inl fun q => q) (.inl hp)) (q₂.trans q₃) (fun _ q => q) fun _ q => .inl q
    refine codeAny_mono (ih F s₃ vs dn ((f₂.step p₃.p).forget hs) hF hm h0 x₃ hD hmD h0D hq₃ (((hr.mono p₁).mono q₂).mono q₃) (by simp only [List.length_cons] at hz; lia)) fun r s' h => ?_
    cases r with
    | ok _ => exact ⟨((r₁.trans r₂).trans p₃.r).trans h.1, h.2⟩
    | error _ => exact h
  | @cons P Ps d ds ρ₁ ha hs ht he r ih =>
    intro F s vs dn f hF hm h0 x hD hmD h0D hq hr hz
    refine comp_turn (wpMono (x.next hF) fun r s₁ ⟨v, e, r₁, hs₁, hv, x₁⟩ => ?_)
    subst e
    obtain ⟨o, e, hp, _⟩ := x.plain
    have hqI := x.apart.2.1 _ _ _ hq
    have f₁ := f.iterX x hs₁.extBut (Nat.le_of_eq hs₁.1.symm) hF hm h0
    have p₁ : Pres B F s.heap s₁.heap := .sameBut hs₁ e hp hF
    refine letOwned x₁ (wpMono (ha F s₁ v f₁ hv) fun _ s₂ ⟨r₂, f₂, p₂⟩ => wpMono (ht.run f₂) fun ok s₃ ⟨p₃, e₃⟩ => ?_)
    subst e₃
    simp only [if_true]
    refine wpMono (he F s₃ (f₂.step p₃.p)) fun y s₄ ⟨p₄, h₄⟩ => ?_
    have q₂ : Pres B F s₁.heap s₂.heap := p₂.weak fun b q => f.mutF q
    have q₃ : Pres B F s₂.heap s₄.heap := (p₃.trans p₄).p.any
    have hq₄ : IsSeq s₄.heap "list" Da vs := ((hq.sameBut hs₁ hqI.symm).pres hmD p₂).pres (fun q => q) (p₃.trans p₄).p
    have hr₄ : reps F s₄.heap vs dn := ((hr.mono p₁).mono q₂).mono q₃
    have x₄ : Its F s₄.heap I Ps := x₁.keep (fun o e hp => (p₃.trans p₄).p.obj _ _ (p₂.obj I o e (.inl hm) (.inl hp)) (.inl fun q => q) (.inl hp)) (q₂.trans q₃) (fun _ q => q) fun _ q => .inl q
    have hlen := reps_length hr
    refine wpAny_list_append_plain (items := vs.toArray) hq₄ (fun h' hq' hs' => ?_) (by simp only [List.length_cons] at hz; simp; lia)
    have hq₅ : IsSeq h' "list" Da (vs ++ [y]) := let ⟨n, e⟩ := hq'; ⟨n, by rw [e]; simp⟩
    obtain ⟨n₄, e₄⟩ := id hq₄
    have p₅ : Pres B F s₄.heap h' := .sameBut hs' e₄ (plain_seq rfl) hD
    have f₅ : Frm C F h' ρ₁ (fun _ => Option.none) := ((f₂.step p₃.p).step p₄.p).touch hs'.extBut (Nat.le_of_eq hs'.1.symm) hD hmD h0D (fun o' e' => by rw [e₄] at e'; cases e'; exact plain_seq rfl) (fun c v hc => cell_ne_seq hc hq₄)
    have x₅ : Its F h' I Ps := x₄.keep (fun o e hp => (hs'.2 I (x₄.apart.2.1 _ _ _ hq₄)).trans e) p₅ (fun _ q => q) fun _ q => .inl q
    refine codeAny_mono (ih F { s₄ with heap := h' } (vs ++ [y]) (dn ++ [d]) (f₅.forget hs) hF hm h0 x₅ hD hmD h0D hq₅ (reps_snoc (rep.mono p₅ h₄) (hr₄.mono p₅)) (by simp only [List.length_cons, List.length_append, List.length_nil] at hz ⊢; lia)) fun r s' h => ?_
    cases r with
    | ok _ => exact ⟨(((r₁.trans r₂).trans p₃.r).trans p₄.r).trans ⟨h.1.1, h.1.2, h.1.3⟩, h.2.1, by simpa [List.append_assoc] using h.2.2⟩
    | error _ => exact h
/-- what a comprehension leaves: a new list, and its own block of names, still there -/
structure CompEnd (B : Bs) (F : Addr → Prop) (s s' : Shared) (Da L : Addr) (ds : List D) : Prop where
  stp : Stp B s s'
  dD : s.heap.objs.size ≤ Da
  dL : s.heap.objs.size ≤ L
  ns : ∃ m, s'.heap.Ns L m
  val : rep (fun b => F b ∨ b = L) s'.heap (.ref Da) (.lst ds)
/-- each free name of the block is a cell that is filled -/
noncomputable def freeOk (C : Cx B) (ρ : Rho B) (names : List (Str × NameKind)) : Bool := names.all fun p => p.2 != .free || ((ρ p.1).isSome && (C.env.kindOf p.1 == some .cell || C.env.kindOf p.1 == some .free))
/-- what is laid for a comprehension, whatever its loop does -/
theorem comp_set {elt t iter : Expr} {ifs : List Expr} {scope : Scope} {pos epos : Pos} {use : Option (Value → Sem Unit)} {Q : Value → Shared → Prop} {F : Addr → Prop} {s : Shared} {Ps : List (Pd B)}
    (f : Frm C F s.heap ρ μ) (hh : C.A.handled = Option.none) (hi : EvI C ρ μ iter Ps)
    (H : ∀ (s₂ : Shared) (h₄ : Heap) (I Da : Addr), Rest s s₂ → s.heap.objs.size ≤ Da → Da + 1 < h₄.objs.size → s.heap.objs.size ≤ h₄.objs.size → s.heap.objs.size ≤ I →
      Frm (compC C scope (Da + 1) s.heap) (fun b => F b ∨ b = I ∨ b = Da ∨ (Da + 1 ≤ b ∧ b < h₄.objs.size)) h₄ (cRho ρ scope) (fun _ => Option.none) → ¬ Mut (compC C scope (Da + 1) s.heap) (fun _ => Option.none) I → ¬ Mut (compC C scope (Da + 1) s.heap) (fun _ => Option.none) Da →
      Its (fun b => F b ∨ b = I ∨ b = Da ∨ (Da + 1 ≤ b ∧ b < h₄.objs.size)) h₄ I Ps → IsSeq h₄ "list" Da [] →
      codeAny (md B) C.A (.compLoop (.ListComp elt [⟨t, iter, ifs, 0⟩] scope pos) 0 (.ref I) (.ref Da) (compC C scope (Da + 1) s.heap).env) (fun r s' => compPost (md B) C.A noE use Q (.ref Da) (Da + 1) r s') { s₂ with heap := h₄ })
    (hfr : freeOk C ρ scope.names = true) (hk : scope.kind = .function) (hnd : (scope.names.map (·.1)).Nodup)
    (hs : ∀ x, foldedSetIterable iter C.env x = pure x) :
    wpAny (md B) C.A (comprehension (.ListComp elt [⟨t, iter, ifs, 0⟩] scope pos) scope C.env epos (newList []) false (eval iter C.env) use) Q noE s := by
  have hcells : ∀ x, (x, NameKind.free) ∈ scope.names → ∃ P c v, ρ x = some P ∧ C.env.cells.lookup x = some c ∧ s.heap.IsCell c (some v) ∧ P.p F s.heap v := fun x q => by
    have h1 := List.all_eq_true.mp hfr _ q
    simp only [bne_self_eq_false, Bool.false_or, Bool.and_eq_true, Bool.or_eq_true, beq_iff_eq] at h1
    obtain ⟨P, hP⟩ := Option.isSome_iff_exists.mp h1.1
    obtain ⟨c, v, a, b, d⟩ := f.cel x P hP h1.2
    exact ⟨P, c, v, hP, a, b, d⟩
  have hsome : ∀ x, (x, NameKind.free) ∈ scope.names → (C.env.cells.lookup x).isSome = true := fun x q => by obtain ⟨_, c, _, _, h, _⟩ := hcells x q; rw [h]; rfl
  have look : ∀ {x k}, scope.names.lookup x = some k → (x, k) ∈ scope.names := fun h => mem_of_lookup h
  have hclt : ∀ p ∈ clOf C.env.cells scope.names [], p.2 < s.heap.objs.size := fun p hp => by
    rcases mem_clOf hp with h | h
    · cases h
    · obtain ⟨_, c, _, _, hl, ⟨o, e, _⟩, _⟩ := hcells _ h.1
      rw [h.2, hl]
      exact Heap.lt_size e
  refine wpAny_comprehension_free (cl := clOf C.env.cells scope.names []) rfl hs (closureFor_eq hsome) hk (fun x hx q => by rw [lookup_mem_nodup hnd hx, q]) ?_
  refine wpMono (hi F s f) fun x s₁ h₁ => wpMono h₁ fun it s₂ ⟨I, e, p₂, hI, hI', x₂⟩ => ?_
  subst e
  refine wpAny_newList ?_ (by decide)
  simp only [newFunctionEnv, Option.isSome_some, if_true]
  refine wpAny_bind (wpAny_alloc ?_)
  refine wpAny_bind (wpAny_layCells _ (fun name kind cells => ?_) _ _ _ _ ?_)
  · cases kind <;> rfl
  generalize hDa : s₂.heap.objs.size = Da
  have hsz3 : (s₂.heap.push { cls := .type "list", data := .seq [].toArray }).objs.size = Da + 1 := by rw [Heap.size_push, hDa]
  have hg3 : (s₂.heap.push { cls := .type "list", data := .seq [].toArray }).get? Da = some { cls := .type "list", data := .seq [].toArray } := by rw [← hDa]; exact push_get rfl
  have hk3 : ∀ b o, s₂.heap.get? b = some o → (s₂.heap.push { cls := .type "list", data := .seq [].toArray }).get? b = some o := fun b o e => Heap.get?_push_of_some _ e
  simp only [hsz3]
  generalize hh3 : s₂.heap.push { cls := .type "list", data := .seq [].toArray } = h₃ at hsz3 hg3 hk3
  have hsz4 : (h₃.push { cls := .type "dict", data := .dict #[] }).objs.size = Da + 1 + 1 := by rw [Heap.size_push, hsz3]
  have hpc := pushCells_size scope.names (h₃.push { cls := .type "dict", data := .dict #[] })
  have hkeep := pushCells_keeps scope.names (h₃.push { cls := .type "dict", data := .dict #[] })
  have hsle : s.heap.objs.size ≤ Da := by rw [← hDa]; exact p₂.p.size
  have hgL : (h₃.push { cls := .type "dict", data := .dict #[] }).get? (Da + 1) = some { cls := .type "dict", data := .dict #[] } := by rw [← hsz3]; exact push_get rfl
  have hok := cellsFrom_ok2 (clOf C.env.cells scope.names []) scope.names (h₃.push { cls := .type "dict", data := .dict #[] }) (Da + 1 + 1) (clOf C.env.cells scope.names []) ⟨fun n c h => .inl h, nodup_clOf (I := f.inj) hnd hsome (fun p hp => nomatch hp) .nil⟩
    (fun p hp => by rw [hsz4]; exact Nat.lt_of_lt_of_le (hclt p hp) (by lia)) (by rw [hsz4]; exact Nat.le_refl _)
  rw [hsz4] at hok hpc
  rw [hsz4]
  generalize hh4 : pushCells (h₃.push { cls := .type "dict", data := .dict #[] }) scope.names = h₄ at hpc hkeep hok ⊢
  have hk24 : ∀ b o, s₂.heap.get? b = some o → h₄.get? b = some o := fun b o e => hkeep b o (Heap.get?_push_of_some _ (hk3 b o e))
  have p24 : Pres B none' s₂.heap h₄ := .of_keep hk24 (by lia)
  have p04 : Pres B none' s.heap h₄ := p₂.p.trans p24
  refine wpAny_bind (wpAny_pure ?_)
  have hwk : ∀ b, (F b ∨ b = I ∨ b = Da ∨ (Da + 1 ≤ b ∧ b < h₄.objs.size)) → F b ∨ s.heap.objs.size ≤ b := fun b q => by
    rcases q with q | rfl | rfl | q
    · exact .inl q
    · exact .inr hI
    · exact .inr hsle
    · exact .inr (Nat.le_trans hsle (Nat.le_of_succ_le q.1))
  have hwk' : ∀ b, (F b ∨ b = I ∨ b = Da ∨ (Da + 1 ≤ b ∧ b < h₄.objs.size)) → F b ∨ s.heap.get? b = Option.none := fun b q => (hwk b q).imp id fun q => Heap.get?_none_of_le q
  have hcf : ∀ x, scope.names.lookup x = some .free → ∃ P c v, ρ x = some P ∧ (cellsFrom (Da + 1 + 1) scope.names (clOf C.env.cells scope.names [])).lookup x = some c ∧ s.heap.IsCell c (some v) ∧ P.p F s.heap v := fun x q => by
    obtain ⟨P, c, v, h1, h2, h3, h4⟩ := hcells x (look q)
    refine ⟨P, c, v, h1, ?_, h3, h4⟩
    rw [lookup_cellsFrom_other fun r => by have := lookup_mem_nodup hnd r; simp only at this; rw [q] at this; cases this]
    obtain ⟨c', hc'⟩ := Option.isSome_iff_exists.mp (lookup_clOf (cells := C.env.cells) (acc := []) (.inl (look q)))
    rcases mem_clOf (mem_of_lookup hc') with r | r
    · cases r
    · have r2 : c' = (C.env.cells.lookup x).getD 0 := r.2
      rw [hc', r2, h2]; rfl
  have hcr : ∀ x P, cRho ρ scope x = some P → scope.names.lookup x = some .free ∧ ρ x = some P := fun x P q => by
    unfold cRho at q
    split at q
    · rename_i h; exact ⟨h, q⟩
    · cases q
  have hkd : ∀ x, scope.names.lookup x = some .free → (compC C scope (Da + 1) s.heap).env.kindOf x = some .cell ∨ (compC C scope (Da + 1) s.heap).env.kindOf x = some .free := fun x q => by
    rw [kindOf_comp f.kind, q]
    simp only
    split
    · exact .inl rfl
    · exact .inr rfl
  have f₄ : Frm (compC C scope (Da + 1) s.heap) (fun b => F b ∨ b = I ∨ b = Da ∨ (Da + 1 ≤ b ∧ b < h₄.objs.size)) h₄ (cRho ρ scope) (fun _ => Option.none) :=
    { base := f.h
      pres := p04
      kind := hk
      glob := f.glob
      blt := f.blt
      fl := .inr (.inr (.inr ⟨Nat.le_refl _, by show Da + 1 < _; lia⟩))
      lt := fun b q => by
        rcases q with q | rfl | rfl | q
        · exact Nat.lt_of_lt_of_le (f.lt b q) p04.size
        · exact Nat.lt_of_lt_of_le hI' p24.size
        · exact Nat.lt_of_lt_of_le (Nat.lt_trans (Nat.lt_succ_self _) (Nat.lt_succ_self _)) hpc
        · exact q.2
      fresh := Heap.get?_none_of_le (Nat.le_succ_of_le hsle)
      stk := by
        obtain ⟨l, e, hl⟩ := f.stack
        exact ⟨l, e, fun env he => let ⟨hk', L, hf, hn, o, es, n, ho, hd⟩ := hl env he; ⟨hk', L, hf, hn, .inr ⟨o, es, n, ho, hd⟩⟩⟩
      loc := ⟨fun _ => Option.none, ⟨_, #[], 0, hkeep _ _ hgL, rfl, fun _ he => by simp at he, fun _ => rfl⟩, fun x P q hl => by
        rcases hkd x (hcr x P q).1 with h | h <;> rw [h] at hl <;> cases hl⟩
      cel := fun x P q _ => by
        obtain ⟨h1, h2⟩ := hcr x P q
        obtain ⟨P', c, v, g1, g2, g3, g4⟩ := hcf x h1
        rw [h2] at g1; cases g1
        exact ⟨c, v, g2, cell_pres g3 (fun q => q) p04, P.mono (P.weak g4 hwk') p04.any⟩
      kinds := fun x P q => .inr (hkd x (hcr x P q).1)
      own := fun x hst _ => by
        have hl : scope.names.lookup x = some .cell := eq_of_beq hst
        obtain ⟨c, hc, hle⟩ := lookup_cellsFrom scope.names (Da + 1 + 1) (clOf C.env.cells scope.names []) x hl
        have hcell : h₄.IsCell c none := by
          rcases hok.empty x c (mem_of_lookup hc) with q | q
          · exact absurd (hclt _ q) (Nat.not_lt.mpr (Nat.le_trans (by lia) hle))
          · exact q.1
        obtain ⟨o, e, _⟩ := id hcell
        exact ⟨c, none, hc, .inr (.inr (.inr ⟨Nat.le_of_succ_le hle, Heap.lt_size e⟩)), Nat.le_trans (Nat.le_trans hsle (Nat.le_trans (Nat.le_succ _) (Nat.le_succ _))) hle, hcell⟩
      inj := fun x y c hx hy => name_of_addr hok.apart (mem_of_lookup hx) (mem_of_lookup hy)
      lst := fun _ _ q => nomatch q }
  have hmI : ¬ Mut (compC C scope (Da + 1) s.heap) (fun _ => Option.none) I := fun q => by
    have hlt : I < Da := by rw [← hDa]; exact hI'
    rcases q with q | ⟨x, h1, h2, h3⟩ | q
    · exact Nat.lt_irrefl _ (Nat.lt_of_lt_of_le hlt (Nat.le_trans (Nat.le_succ _) (Nat.le_of_eq q.symm)))
    · obtain ⟨c, hc, hle⟩ := lookup_cellsFrom scope.names (Da + 1 + 1) (clOf C.env.cells scope.names []) x (eq_of_beq h1)
      have : c = I := Option.some.inj (hc.symm.trans h3)
      exact Nat.lt_irrefl _ (Nat.lt_of_lt_of_le hlt (Nat.le_trans (by lia) (this ▸ hle)))
    · cases q
  have hmD : ¬ Mut (compC C scope (Da + 1) s.heap) (fun _ => Option.none) Da := fun q => by
    rcases q with q | ⟨x, h1, h2, h3⟩ | q
    · exact Nat.lt_irrefl _ (Nat.lt_of_lt_of_le (Nat.lt_succ_self Da) (Nat.le_of_eq q.symm))
    · obtain ⟨c, hc, hle⟩ := lookup_cellsFrom scope.names (Da + 1 + 1) (clOf C.env.cells scope.names []) x (eq_of_beq h1)
      have : c = Da := Option.some.inj (hc.symm.trans h3)
      exact Nat.lt_irrefl _ (Nat.lt_of_lt_of_le (Nat.lt_succ_self Da) (Nat.le_trans (by lia) (this ▸ hle)))
    · cases q
  have x₄ : Its (fun b => F b ∨ b = I ∨ b = Da ∨ (Da + 1 ≤ b ∧ b < h₄.objs.size)) h₄ I Ps := x₂.keep (fun o e _ => hk24 _ _ e) p24.any (fun b q => q.imp id .inl) fun b q => by
    rcases q with q | q | rfl | q
    · exact .inl (.inl q)
    · exact .inl (.inr q)
    · exact .inr (Nat.le_of_eq hDa)
    · exact .inr (Nat.le_trans (Nat.le_of_eq hDa) (Nat.le_of_succ_le q.1))
  have hl := H s₂ h₄ I Da p₂.r hsle hpc p04.size hI f₄ hmI hmD x₄ ⟨0, hkeep _ _ (Heap.get?_push_of_some _ hg3)⟩
  refine wpAny_pure (codeAny_compStart_list hl ?_)
  have again : wpAny (md B) C.A (pyIter (.ref I)) (fun it' s' => it' = .ref I ∧ s' = { s₂ with heap := h₄ }) noE { s₂ with heap := h₄ } := by
    cases x₄ with
    | list l i vs it _ _ _ => exact wpAny_pyIter_listiter it ⟨rfl, rfl⟩
    | tuple l i vs it _ _ _ => exact wpAny_pyIter_tupleiter it ⟨rfl, rfl⟩
    | range x step n it _ => exact wpAny_pyIter_rangeiter it ⟨rfl, rfl⟩
  refine wpMono again fun it' s' ⟨e1, e2⟩ => ?_
  subst e1; subst e2
  exact hl
theorem comp_run {elt t iter : Expr} {ifs : List Expr} {scope : Scope} {pos epos : Pos} {use : Option (Value → Sem Unit)} {Q : Value → Shared → Prop} {F : Addr → Prop} {s : Shared} {Ps : List (Pd B)} {ds : List D}
    (f : Frm C F s.heap ρ μ) (hh : C.A.handled = Option.none) (hi : EvI C ρ μ iter Ps)
    (hx : ∀ L h₀, CompT (compC C scope L h₀) (cRho ρ scope) t ifs elt Ps ds)
    (hQ : ∀ s' Da L, CompEnd B F s s' Da L ds → compPost (md B) C.A noE use Q (.ref Da) L (.ok .next) s')
    (hfr : freeOk C ρ scope.names = true) (hk : scope.kind = .function) (hnd : (scope.names.map (·.1)).Nodup) (hz : Ps.length ≤ sizeLine)
    (hs : ∀ x, foldedSetIterable iter C.env x = pure x) :
    wpAny (md B) C.A (comprehension (.ListComp elt [⟨t, iter, ifs, 0⟩] scope pos) scope C.env epos (newList []) false (eval iter C.env) use) Q noE s := by
  refine comp_set f hh hi (fun s₂ h₄ I Da rr hsle hsz h04 hI f₄ hmI hmD x₄ hq₀ => ?_) hfr hk hnd hs
  have loop := comp_loop (C := compC C scope (Da + 1) s.heap) (iter := iter) (scope := scope) (pos := pos) (I := I) (Da := Da) hh (hx (Da + 1) s.heap) _ { s₂ with heap := h₄ } [] [] f₄ (.inr (.inl rfl)) hmI (Heap.get?_none_of_le hI) x₄ (.inr (.inr (.inl rfl))) hmD (Heap.get?_none_of_le hsle)
    hq₀ (by simp [reps]) (by simpa using hz)
  have fin : ∀ r s', (match r with | .ok _ => Rest { s₂ with heap := h₄ } s' ∧ Frm (compC C scope (Da + 1) s.heap) (fun b => F b ∨ b = I ∨ b = Da ∨ (Da + 1 ≤ b ∧ b < h₄.objs.size)) s'.heap (cRho ρ scope) (fun _ => Option.none) ∧ ∃ vs', IsSeq s'.heap "list" Da vs' ∧ reps (fun b => F b ∨ b = I ∨ b = Da ∨ (Da + 1 ≤ b ∧ b < h₄.objs.size)) s'.heap vs' ([] ++ ds) | .error _ => False : Prop) →
      compPost (md B) C.A noE use Q (.ref Da) (Da + 1) r s' := fun r s' h => by
    cases r with
    | error e => exact h.elim
    | ok fl =>
      obtain ⟨r', f', vs', hq, hr⟩ := h
      have := hQ s' Da (Da + 1) ⟨⟨f'.pres, rr.trans ⟨r'.1, r'.2, r'.3⟩⟩, hsle, Nat.le_succ_of_le hsle, let ⟨m, hn, _⟩ := f'.loc; ⟨m, hn⟩, by
        simp only [rep]
        refine ⟨Da, vs', rfl, fun q => ?_, hq, ?_⟩
        · rcases q with q | q
          · exact Nat.lt_irrefl _ (Nat.lt_of_lt_of_le (f.lt _ q) hsle)
          · exact Nat.lt_irrefl _ (Nat.lt_of_lt_of_le (Nat.lt_succ_self Da) (Nat.le_of_eq q.symm))
        · exact reps.weak (fun b q => .inl (q.imp id fun q => .inr (.inr (by rw [q]; exact ⟨Nat.le_refl _, hsz⟩)))) hr⟩
      cases use <;> exact this
  exact codeAny_mono loop fin
end Mine
open PySem PySem.W PyProof.Rows
set_option Elab.async false
set_option maxRecDepth 100000
set_option linter.unusedVariables false
set_option linter.unusedSimpArgs false
namespace Mine
variable {B : Bs} {C : Cx B} {ρ : Rho B} {μ : Mu B}
theorem Pres.thenS {F : Addr → Prop} {h h₁ h' : Heap} {L : Addr} {o : Obj} (x : Pres B F h h₁) (hs : Heap.SameBut L h₁ h') (hL : h.get? L = none) (e : h₁.get? L = some o) (hp : plainObj o) : Pres B F h h' :=
  ⟨fun b o' e' f t => (hs.2 b fun q => by rw [q, hL] at e'; cases e').trans (x.obj b o' e' f t), fun b o' e' f t => by obtain ⟨sl, e''⟩ := x.frm b o' e' f t; exact ⟨sl, (hs.2 b fun q => by rw [q, hL] at e'; cases e').trans e''⟩, fun k b g => (Pres.sameBut (B := B) (F := fun b => b = L) hs e hp rfl).tab k b (x.tab k b g), Nat.le_trans x.size (Nat.le_of_eq hs.1.symm)⟩
theorem Ev.comp {elt t iter : Expr} {ifs : List Expr} {scope : Scope} {pos : Pos} {Ps : List (Pd B)} {ds : List D} (hh : C.A.handled = Option.none) (hi : EvI C ρ μ iter Ps) (hx : ∀ L h₀, CompT (compC C scope L h₀) (cRho ρ scope) t ifs elt Ps ds)
    (hz : Ps.length ≤ sizeLine) (hfr : freeOk C ρ scope.names = true := by rfl) (hk : scope.kind = .function := by rfl) (hnd : (scope.names.map (·.1)).Nodup := by decide)
    (hs : ∀ x, foldedSetIterable iter C.env x = pure x := by intro _; rfl) : Ev C ρ μ (.ListComp elt [⟨t, iter, ifs, 0⟩] scope pos) (pd (.lst ds)) := fun F s f => by
  show wpAny (md B) C.A (comprehension (.ListComp elt [⟨t, iter, ifs, 0⟩] scope pos) scope C.env _ (newList []) false (eval iter C.env) Option.none) _ _ _
  refine comp_run f hh hi hx (fun s' Da L ce => ?_) hfr hk hnd hz hs
  obtain ⟨m, hn⟩ := ce.ns
  refine ⟨m, hn, fun h' hs' => ?_⟩
  obtain ⟨o, es, ep, e, hd, _⟩ := id hn
  refine ⟨⟨ce.stp.p.thenS hs' (Heap.get?_none_of_le ce.dL) e (plain_dict hd), ce.stp.r.1, ce.stp.r.2, ce.stp.r.3⟩, ?_⟩
  exact rep.weak (fun b q => .inl (.inl q)) (rep.mono (Pres.sameBut (B := B) hs' e (plain_dict hd) (.inr rfl)) ce.val)
theorem Ex1.assignC {elt t iter : Expr} {ifs : List Expr} {scope : Scope} {pos py spos : Pos} {y : Str} {Ps : List (Pd B)} {ds : List D} (hh : C.A.handled = Option.none) (hi : EvI C ρ μ iter Ps) (hx : ∀ L h₀, CompT (compC C scope L h₀) (cRho ρ scope) t ifs elt Ps ds)
    (hz : Ps.length ≤ sizeLine) (hy : Sto C y) (hsw : swapsWith (.ListComp elt [⟨t, iter, ifs, 0⟩] scope pos) (some (.Name y py)) spos.line C.env = pure true := by rfl)
    (hfr : freeOk C ρ scope.names = true := by rfl) (hk : scope.kind = .function := by rfl) (hnd : (scope.names.map (·.1)).Nodup := by decide)
    (hs : ∀ x, foldedSetIterable iter C.env x = pure x := by intro _; rfl) : Ex1 C ρ μ (.Assign [.Name y py] (.ListComp elt [⟨t, iter, ifs, 0⟩] scope pos) spos) (.next (upd ρ y (pd (.lst ds))) μ) := fun F s f => by
  rw [exec_Assign_Name_used _ _ _ _ hsw]
  refine wpAny_bind (wpAny_standAt (wpAny_bind ?_))
  show wpAny (md B) C.A (do let _ ← comprehension (.ListComp elt [⟨t, iter, ifs, 0⟩] scope pos) scope C.env _ (newList []) false (eval iter C.env) (some (PySem.assign (Expr.Name y py) C.env))) _ _ _
  refine wpAny_bind (comp_run f hh hi hx (fun s' Da L ce => ?_) hfr hk hnd hz hs)
  obtain ⟨m, hn⟩ := ce.ns
  obtain ⟨o, es, ep, e, hd, rr⟩ := id hn
  have f' : Frm C (fun b => F b ∨ b = L) s'.heap ρ μ := f.grow ce.stp.p (fun b q => q.imp id fun q => by rw [q]; exact Heap.get?_none_of_le ce.dL) (fun b q => .inl q) fun b q => q.elim (fun q => Nat.lt_of_lt_of_le (f.lt b q) ce.stp.p.size) fun q => by rw [q]; exact Heap.lt_size e
  have hm : ¬ Mut C μ L := fun q => Nat.lt_irrefl _ (Nat.lt_of_lt_of_le (f.lt L (f.mutF q)) ce.dL)
  show wpAny (md B) C.A (do standAt py; bindName C.env y (.ref Da)) _ _ _
  refine wpAny_bind (wpAny_standAt (wpAny_bindName (wpMono (st_any (P := pd (.lst ds)) f' ce.val hy) fun _ s'' ⟨r₂, f₂, p₂⟩ => ?_)))
  obtain ⟨sl₂, e₂⟩ := p₂.data e hm fun vs q => by rw [hd] at q; cases q
  have hn₂ : s''.heap.Ns L m := ⟨_, es, ep, e₂, hd, rr⟩
  refine ⟨m, hn₂, fun h' hs' => ?_⟩
  have n : Nxt C F μ s.heap (upd ρ y (pd (.lst ds))) μ h' (fun b => F b ∨ b = L) := ⟨fun b q => .inl q, fun b q => q.imp id fun q => by rw [q]; exact ce.dL, ?_, fun b q => .inl q⟩
  · refine wpAny_pure (wpAny_pure ⟨⟨r₂.1.trans ce.stp.r.1, r₂.2.trans ce.stp.r.2, r₂.3.trans ce.stp.r.3⟩, ?_, _, n⟩)
    exact (ce.stp.p.any.trans p₂).thenS hs' (Heap.get?_none_of_le ce.dL) e₂ (plain_dict hd)
  exact f₂.touch hs'.extBut (Nat.le_of_eq hs'.1.symm) (.inr rfl) hm (Heap.get?_none_of_le (Nat.le_trans f.pres.size ce.dL)) (fun o' e' => by rw [e₂] at e'; cases e'; exact plain_dict hd) (fun c v hc => (ns_ne_cell hn₂ hc).symm)
theorem upd_sub {x : Str} {Q : Pd B} (h : ρ x = none) : ∀ y P, ρ y = some P → upd ρ x Q y = some P := fun y P hy => by
  unfold upd
  by_cases hyx : y = x
  · subst hyx; rw [h] at hy; cases hy
  · rw [if_neg hyx]; exact hy
/-- a comprehension over one name, item by item -/
theorem CompT.map {α : Type} {x : Str} {p : Pos} {elt : Expr} (l : List α) (f : α → Pd B) (g : α → D) (hk : Sto C x) (h : ∀ a ∈ l, Ev C (upd ρ x (f a)) (fun _ => none) elt (pd (g a))) (hx : ρ x = none := by rfl) : CompT C ρ (.Name x p) [] elt (l.map f) (l.map g) := by
  induction l with
  | nil => exact .nil
  | cons a l ih => exact .cons (.name hk) (upd_sub hx) .nil (h a List.mem_cons_self) (ih fun b hb => h b (List.mem_cons_of_mem _ hb))
theorem CompT.filter {α : Type} {x : Str} {p : Pos} {elt c : Expr} (l : List α) (f : α → Pd B) (g : α → D) (q : α → Bool) (hk : Sto C x) (hq : ∀ a ∈ l, EvT C (upd ρ x (f a)) (fun _ => none) c (q a)) (h : ∀ a ∈ l, q a = true → Ev C (upd ρ x (f a)) (fun _ => none) elt (pd (g a))) (hx : ρ x = none := by rfl) :
    CompT C ρ (.Name x p) [c] elt (l.map f) ((l.filter q).map g) := by
  induction l with
  | nil => exact .nil
  | cons a l ih =>
    have ih' := ih (fun b hb => hq b (List.mem_cons_of_mem _ hb)) fun b hb => h b (List.mem_cons_of_mem _ hb)
    cases hqa : q a with
    | true =>
      rw [List.filter_cons_of_pos hqa]
      exact .cons (.name hk) (upd_sub hx) (.one (hqa ▸ hq a List.mem_cons_self)) (h a List.mem_cons_self hqa) ih'
    | false =>
      rw [List.filter_cons_of_neg (by rw [hqa]; decide)]
      exact .skip (.name hk) (upd_sub hx) (.one (hqa ▸ hq a List.mem_cons_self)) ih'
end Mine
open PySem PySem.W PyProof.Rows
set_option Elab.async false
set_option maxRecDepth 100000
set_option linter.unusedVariables false
set_option linter.unusedSimpArgs false
namespace Mine
variable {B : Bs} {C : Cx B} {ρ : Rho B} {μ : Mu B}
theorem all2_one {F : Addr → Prop} {h : Heap} {P : Pd B} {Ps : List (Pd B)} {vs : List Value} (x : all2 F h (P :: Ps) vs) : ∃ v ws, vs = v :: ws ∧ P.p F h v ∧ all2 F h Ps ws := by
  cases vs with
  | nil => exact False.elim x
  | cons v ws => exact ⟨v, ws, rfl, x.1, x.2⟩
theorem all2_non {F : Addr → Prop} {h : Heap} {vs : List Value} (x : all2 (B := B) F h [] vs) : vs = [] := by
  cases vs with
  | nil => rfl
  | cons v ws => exact False.elim x
theorem one_arg {F : Addr → Prop} {h : Heap} {P : Pd B} {vs : List Value} (x : all2 F h [P] vs) : ∃ v, vs = [v] ∧ P.p F h v := by
  obtain ⟨v, ws, rfl, h1, h2⟩ := all2_one x
  rw [all2_non h2]; exact ⟨v, rfl, h1⟩
theorem two_args {F : Addr → Prop} {h : Heap} {P Q : Pd B} {vs : List Value} (x : all2 F h [P, Q] vs) : ∃ v w, vs = [v, w] ∧ P.p F h v ∧ Q.p F h w := by
  obtain ⟨v, ws, rfl, h1, h2⟩ := all2_one x
  obtain ⟨w, rfl, h3⟩ := one_arg h2
  exact ⟨v, w, rfl, h1, h3⟩
theorem three_args {F : Addr → Prop} {h : Heap} {P Q R : Pd B} {vs : List Value} (x : all2 F h [P, Q, R] vs) : ∃ v w u, vs = [v, w, u] ∧ P.p F h v ∧ Q.p F h w ∧ R.p F h u := by
  obtain ⟨v, ws, rfl, h1, h2⟩ := all2_one x
  obtain ⟨w, u, rfl, h3, h4⟩ := two_args h2
  exact ⟨v, w, u, rfl, h1, h3, h4⟩
theorem fn_lenS {H : Option Value → Prop} (l : List Nat) (hl : l.length < 2 ^ 62) : Fn B 0 (.builtin "len") [ptx l] (pint l.length) H where
  kept := trivial
  call := fun F A s vs hr hh hst hb hlt hv => by
    obtain ⟨v, rfl, hv'⟩ := one_arg hv
    clear hv; have hv := hv'; clear hv'
    obtain ⟨t, rfl⟩ := str_of hv
    refine len_str (by rw [mkS_length]; lia) ⟨.toks, ?_⟩
    rw [mkS_length]; exact of_int
theorem fn_lenL {H : Option Value → Prop} (l : List D) (hl : l.length < 2 ^ 62) : Fn B 0 (.builtin "len") [pd (.lst l)] (pint l.length) H where
  kept := trivial
  call := fun F A s vs hr hh hst hb hlt hv => by
    obtain ⟨v, rfl, hv'⟩ := one_arg hv
    clear hv; have hv := hv'; clear hv'
    obtain ⟨a, vs, rfl, hF, hq, hr⟩ := lst_of hv
    have e := reps_length hr
    refine PyProof.Rows.len_list hq.isList (by simp; lia) ⟨.toks, ?_⟩
    have : ((vs.toArray.size : Nat) : Int) = (l.length : Int) := by simp [e]
    rw [this]; exact of_int
theorem fn_chr {H : Option Value → Prop} (i : Int) (h0 : 0 ≤ i) (h1 : i ≤ 0x10FFFF) : Fn B 0 (.builtin "chr") [pint i] (ptx [i.toNat]) H where
  kept := trivial
  call := fun F A s vs hr hh hst hb hlt hv => by
    obtain ⟨v, rfl, hv'⟩ := one_arg hv
    clear hv; have hv := hv'; clear hv'
    obtain ⟨t, rfl⟩ := int_of hv
    exact PySem.P.chr_of_int (by simp; lia) ⟨.toks, of_str⟩
theorem fn_range1 {H : Option Value → Prop} (n : Int) : Fn B 0 (.type "range") [pint n] (prange 0 n 1) H where
  kept := trivial
  call := fun F A s vs hr hh hst hb hlt hv => by
    obtain ⟨v, rfl, hv'⟩ := one_arg hv
    clear hv; have hv := hv'; clear hv'
    obtain ⟨t, rfl⟩ := int_of hv
    exact call_range_1 ⟨⟨.push _, ⟨rfl, rfl, rfl⟩⟩, _, _, _, _, rfl, fun q => Nat.lt_irrefl _ (hlt _ q), IsRange.new ..⟩
theorem fn_range2 {H : Option Value → Prop} (a n : Int) : Fn B 0 (.type "range") [pint a, pint n] (prange a n 1) H where
  kept := trivial
  call := fun F A s vs hr hh hst hb hlt hv => by
    obtain ⟨v, w, rfl, hv', hw⟩ := two_args hv
    clear hv; have hv := hv'; clear hv'
    obtain ⟨t, rfl⟩ := int_of hv
    obtain ⟨u, rfl⟩ := int_of hw
    exact call_range_2 ⟨⟨.push _, ⟨rfl, rfl, rfl⟩⟩, _, _, _, _, rfl, fun q => Nat.lt_irrefl _ (hlt _ q), IsRange.new ..⟩
theorem fn_range3 {H : Option Value → Prop} (a n c : Int) (hc : c ≠ 0) (hs : c.natAbs < 2 ^ 64) : Fn B 0 (.type "range") [pint a, pint n, pint c] (prange a n c) H where
  kept := trivial
  call := fun F A s vs hr hh hst hb hlt hv => by
    obtain ⟨v, w, x, rfl, hv', hw, hx⟩ := three_args hv
    clear hv; have hv := hv'; clear hv'
    obtain ⟨t, rfl⟩ := int_of hv
    obtain ⟨u, rfl⟩ := int_of hw
    obtain ⟨y, rfl⟩ := int_of hx
    refine call_range_3 hc ⟨⟨.push _, ⟨rfl, rfl, rfl⟩⟩, _, _, _, _, rfl, fun q => Nat.lt_irrefl _ (hlt _ q), IsRange.new ..⟩ (.inl ?_)
    unfold Builtin.divisionGoesByPylong
    have : (if (c == 0) = true then 0 else c.natAbs.log2 / 30 + 1) ≤ 300 := by
      split
      · lia
      · have h2 : c.natAbs.log2 < 64 := (Nat.log2_lt (by lia)).mpr hs
        lia
    simp only [Bool.and_eq_false_iff, decide_eq_false_iff_not]
    left; lia
theorem Ev.isNone {e : Expr} {k pos p2} {P : Pd B} {b : Bool} (h : Ev C ρ μ e P) (hb : ∀ F h v, P.p F h v → (v == Value.none) = b) : Ev C ρ μ (.Compare e [.Is] [.Constant .none k p2] pos) (pbool b) :=
  Ev.cmp h Ev.none (fun F s a c f ha hc => by rw [none_of hc]; exact is_none ⟨.refl, by rw [hb _ _ _ ha]; exact of_bool⟩) (by with_unfolding_all rfl)
noncomputable def D.isNone : D → Bool
  | .none => true
  | _ => false
theorem rep_isNone {d : D} : ∀ F h v, (pd (B := B) d).p F h v → (v == Value.none) = d.isNone := fun F h v x => by
  cases d with
  | none => have := none_of x; subst this; rfl
  | bool b => have := bool_of x; subst this; rfl
  | int i => obtain ⟨t, rfl⟩ := int_of x; rfl
  | str i => obtain ⟨t, rfl⟩ := str_of x; rfl
  | tup l => obtain ⟨a, vs, rfl, _⟩ := tup_of x; rfl
  | lst l => obtain ⟨a, vs, rfl, _⟩ := lst_of x; rfl
theorem Ev.isN {e : Expr} {k pos p2} {d : D} (h : Ev C ρ μ e (pd d)) : Ev C ρ μ (.Compare e [.Is] [.Constant .none k p2] pos) (pbool d.isNone) := Ev.isNone h rep_isNone
theorem Ev.inS {l r : Expr} {pos : Pos} {c : Nat} {x : List Nat} (hl : Ev C ρ μ l (ptx [c])) (hr : Ev C ρ μ r (ptx x)) (hm : behindInMarks .In r = false := by with_unfolding_all rfl) : Ev C ρ μ (.Compare l [.In] [r] pos) (pbool (decide (c ∈ x))) :=
  Ev.cmp hl hr (fun F s a b _ ha hb => by
    obtain ⟨t, rfl⟩ := str_of ha
    obtain ⟨u, rfl⟩ := str_of hb
    refine in_str ⟨.refl, ?_⟩
    have := PySem.StrLaws.found_one (mkS x) c
    rw [show (mkS [c]) = (⟨#[c]⟩ : Str) from rfl, this]
    exact of_bool) hm
theorem Ev.ninS {l r : Expr} {pos : Pos} {c : Nat} {x : List Nat} (hl : Ev C ρ μ l (ptx [c])) (hr : Ev C ρ μ r (ptx x)) (hm : behindInMarks .NotIn r = false := by with_unfolding_all rfl) : Ev C ρ μ (.Compare l [.NotIn] [r] pos) (pbool (!decide (c ∈ x))) :=
  Ev.cmp hl hr (fun F s a b _ ha hb => by
    obtain ⟨t, rfl⟩ := str_of ha
    obtain ⟨u, rfl⟩ := str_of hb
    refine PySem.P.notIn_str ⟨.refl, ?_⟩
    have := PySem.StrLaws.found_one (mkS x) c
    rw [show (mkS [c]) = (⟨#[c]⟩ : Str) from rfl, this]
    exact of_bool) hm
/-- lists end to end -/
theorem reps_append {F : Addr → Prop} {h : Heap} : ∀ {vs ws : List Value} {ds es : List D}, reps F h vs ds → reps F h ws es → reps F h (vs ++ ws) (ds ++ es)
  | [], _, [], _, _, y => y
  | _ :: vs, ws, _ :: ds, es, x, y => by simp only [List.cons_append, reps] at x ⊢; exact ⟨x.1, reps_append x.2 y⟩
  | [], _, _ :: _, _, x, _ => by simp [reps] at x
  | _ :: _, _, [], _, x, _ => by simp [reps] at x
theorem Ev.catL {l r : Expr} {pos : Pos} {x y : List D} (hl : Ev C ρ μ l (pd (.lst x))) (hr : Ev C ρ μ r (pd (.lst y))) (hz : x.length + y.length ≤ sizeLine) : Ev C ρ μ (.BinOp l .Add r pos) (pd (.lst (x ++ y))) :=
  Ev.bin hl hr fun F s a b f ha hb => by
    obtain ⟨c, vs, rfl, hF, ⟨n, hq⟩, hr⟩ := lst_of ha
    obtain ⟨d, ws, rfl, hF', ⟨n2, hq'⟩, hr'⟩ := lst_of hb
    have e1 := reps_length hr
    have e2 := reps_length hr'
    refine concat_meets ⟨_, hq, rfl⟩ ⟨_, hq', rfl⟩ noFill_list_add seq_list_add PySem.F.slot_list_add PySem.F.entry_list_add (PySem.F.args_list_add_2 _ _) (list_addW c d vs.toArray ws.toArray n n2 Option.none Option.none #[] #[] (by simp; lia)) ⟨hq, hq', ⟨.push _, ⟨rfl, rfl, rfl⟩⟩, ?_⟩
    simp only [pd, rep]
    refine ⟨_, vs ++ ws, rfl, fun q => Nat.lt_irrefl _ (f.lt _ q), ⟨0, ?_⟩, reps_append (hr.mono (Pres.push (B := B) _)) (hr'.mono (Pres.push (B := B) _))⟩
    rw [push_get rfl]; simp
end Mine
open PySem PySem.W PyProof.Rows
set_option Elab.async false
set_option maxRecDepth 100000
set_option linter.unusedVariables false
set_option linter.unusedSimpArgs false
namespace Mine
variable {B : Bs} {C : Cx B} {ρ : Rho B} {μ : Mu B}
/-- l[lo:hi] with bounds that are not negative -/
noncomputable def slc {α : Type} (l : List α) (lo hi : Option Int) : List α := (l.take (hi.elim l.length Int.toNat)).drop (lo.elim 0 Int.toNat)
noncomputable def nn : Option Int → Prop
  | none => True
  | some i => 0 ≤ i
theorem clipAt_nn {n : Nat} {i : Int} (h : 0 ≤ i) : clipAt n i = min i.toNat n := by
  unfold clipAt
  rw [if_neg (Int.not_lt.mpr h)]
  obtain ⟨k, rfl⟩ := Int.eq_ofNat_of_zero_le h
  rcases Nat.le_total k n with q | q
  · rw [Int.min_eq_left (Int.ofNat_le.mpr q), Int.max_eq_right (Int.natCast_nonneg k), Int.toNat_natCast, Nat.min_eq_left q]
  · rw [Int.min_eq_right (Int.ofNat_le.mpr q), Int.max_eq_right (Int.natCast_nonneg n), Int.toNat_natCast, Int.toNat_natCast, Nat.min_eq_right q]
theorem run_eq {α : Type} (l : List α) (a b : Nat) : (l.drop (min a l.length)).take (min b l.length - min a l.length) = (l.take b).drop a := by
  rw [List.drop_take]
  rcases Nat.le_total a l.length with h | h
  · rw [Nat.min_eq_left h]
    rcases Nat.le_total b l.length with h' | h'
    · rw [Nat.min_eq_left h']
    · rw [Nat.min_eq_right h', List.take_of_length_le (by simp), List.take_of_length_le (by simp; lia)]
  · rw [Nat.min_eq_right h, List.drop_of_length_le (Nat.le_refl _), List.drop_of_length_le h]
    simp
theorem pick_slc {α : Type} (l : List α) (lo hi : Option Int) (h1 : nn lo) (h2 : nn hi) : (l.drop (lo.elim 0 (clipAt l.length))).take (hi.elim l.length (clipAt l.length) - lo.elim 0 (clipAt l.length)) = slc l lo hi := by
  have e1 : lo.elim 0 (clipAt l.length) = min (lo.elim 0 Int.toNat) l.length := by
    cases lo with
    | none => simp
    | some i => exact clipAt_nn h1
  have e2 : hi.elim l.length (clipAt l.length) = min (hi.elim l.length Int.toNat) l.length := by
    cases hi with
    | none => simp
    | some i => exact clipAt_nn h2
  rw [e1, e2]
  exact run_eq l _ _
theorem strSlice_eq (n : Nat) (lo hi : Option Int) : PySem.Builtin.Str.strSliceIndices lo hi 1 n = (List.range (hi.elim n (clipAt n) - lo.elim 0 (clipAt n))).map (lo.elim 0 (clipAt n) + ·) := by
  have e : PySem.Builtin.Str.strSliceIndices lo hi 1 n = sliceRange (((lo.elim 0 (clipAt n) : Nat) : Int)) (((hi.elim n (clipAt n) : Nat) : Int)) 1 := by
    cases lo <;> cases hi <;> simp [PySem.Builtin.Str.strSliceIndices, clipAt_cast]
  rw [e, sliceRange_one]
theorem clip_le (n : Nat) (i : Int) : clipAt n i ≤ n := Int.toNat_le.mpr (Int.max_le.mpr ⟨Int.natCast_nonneg _, Int.min_le_right _ _⟩)
theorem sl1 {a b L : Nat} (h : b ≤ L) : min (b - a) (L - a) = b - a := Nat.min_eq_left (Nat.sub_le_sub_right h a)
theorem sl2 {a b L : Nat} (h : min b L - a = L) (h0 : ¬ L = 0) : a = 0 := by lia
theorem sl3 {a b L : Nat} (h : min b L - a = L) : L ≤ b := by lia
theorem sl4 (a b L : Nat) : min b L - a ≤ L := Nat.le_trans (Nat.sub_le _ _) (Nat.min_le_right _ _)
theorem slice_str (l : List Nat) (t : Tok) (lo hi : Option (Int × Tok)) (h1 : nn (lo.map (·.1))) (h2 : nn (hi.map (·.1))) {Q : Value → Shared → Prop} {s : Shared} (hl : l.length ≤ sizeLine)
    (h : ∀ t' k, Q (.str (mkS (slc l (lo.map (·.1)) (hi.map (·.1)))) t') { s with toks := k }) : (sliceMade (mkS l) t lo hi none).post Q s := by
  have hp : slicePicked (mkS l) lo hi none = (List.range ((hi.map (·.1)).elim l.length (clipAt l.length) - (lo.map (·.1)).elim 0 (clipAt l.length))).map ((lo.map (·.1)).elim 0 (clipAt l.length) + ·) := by
    unfold slicePicked
    rw [mkS_length]
    exact strSlice_eq _ _ _
  have hv : (slicePicked (mkS l) lo hi none).filterMap ((mkS l).cps[·]?) = slc l (lo.map (·.1)) (hi.map (·.1)) := by
    rw [hp]
    refine (pick_run (mkS l).cps _ _).trans ?_
    exact pick_slc l _ _ h1 h2
  unfold sliceMade
  split
  · rename_i hc
    simp only [Bool.and_eq_true] at hc
    have hlen : (slc l (lo.map (·.1)) (hi.map (·.1))).length = l.length := by
      have := eq_of_beq hc.2
      rw [mkS_length] at this
      have e : (slicePicked (mkS l) lo hi none).length = (slc l (lo.map (·.1)) (hi.map (·.1))).length := by
        rw [← pick_slc l _ _ h1 h2, hp]
        simp only [List.length_map, List.length_range, List.length_take, List.length_drop]
        have b1 : ∀ n (i : Option Int), i.elim n (clipAt n) ≤ n := fun n i => by cases i with | none => exact Nat.le_refl _ | some i => exact clip_le n i
        exact (sl1 (b1 l.length (hi.map (·.1)))).symm
      exact e.symm.trans this
    have hsub : slc l (lo.map (·.1)) (hi.map (·.1)) = l := by
      unfold slc at hlen ⊢
      rw [List.length_drop, List.length_take] at hlen
      by_cases h0 : l.length = 0
      · have : l = [] := List.eq_nil_of_length_eq_zero h0
        subst this; simp
      · have a0 : (lo.map (·.1)).elim 0 Int.toNat = 0 := sl2 hlen h0
        rw [a0, List.drop_zero, List.take_of_length_le (sl3 hlen)]
    have := h t s.toks
    rw [hsub] at this
    exact this
  · rw [hv]
    refine ⟨?_, h _ _⟩
    show (mkS _).length ≤ sizeLine
    rw [mkS_length]
    refine Nat.le_trans ?_ hl
    unfold slc
    rw [List.length_drop, List.length_take]
    exact sl4 _ _ _
/-- a bound of a slice -/
noncomputable def EvP {B : Bs} (C : Cx B) (ρ : Rho B) (μ : Mu B) : Option Expr → Option Int → Prop
  | none, none => True
  | some e, some i => Ev C ρ μ e (pint i)
  | _, _ => False
theorem EvP.run {x : Option Expr} {v : Option Int} {F : Addr → Prop} {s : Shared} (h : EvP C ρ μ x v) (f : Frm C F s.heap ρ μ) :
    wpAny (md B) C.A (evalPart x C.env) (fun r s' => Stp B s s' ∧ ∃ p : Option (Int × Tok), r = partValue p ∧ p.map (·.1) = v) noE s := by
  cases x with
  | none => cases v with
    | none => exact wpAny_pure ⟨.refl, none, rfl, rfl⟩
    | some i => exact h.elim
  | some e => cases v with
    | none => exact h.elim
    | some i =>
      show wpAny (md B) C.A (eval e C.env) _ _ _
      exact wpMono (h F s f) fun v s₁ ⟨p, hv⟩ => by obtain ⟨t, rfl⟩ := int_of hv; exact ⟨p, some (i, t), rfl, rfl⟩
theorem Ev.slS {value : Expr} {lo hi : Option Expr} {a b : Option Int} {p pos : Pos} {l : List Nat} (hv : Ev C ρ μ value (ptx l)) (ha : EvP C ρ μ lo a) (hb : EvP C ρ μ hi b) (h1 : nn a) (h2 : nn b) (hl : l.length ≤ sizeLine)
    (ht : ∀ o r, letTemporaryGo value o r = pure () := by intro _ _; rfl) : Ev C ρ μ (.Subscript value (.Slice lo hi Option.none p) pos) (ptx (slc l a b)) := fun F s f =>
  wpAny_Subscript_str_slice (wpMono (hv F s f) fun o s₁ ⟨p₁, h₁⟩ => wpMono (ha.run (f.step p₁.p)) fun vl s₂ ⟨p₂, pl, e₂, m₂⟩ => wpMono (hb.run ((f.step p₁.p).step p₂.p)) fun vu s₃ ⟨p₃, pu, e₃, m₃⟩ => by
    obtain ⟨t, rfl⟩ := str_of h₁
    refine ⟨_, t, pl, pu, rfl, e₂, e₃, slice_str l t pl pu (by rw [m₂]; exact h1) (by rw [m₃]; exact h2) hl fun t' k => ⟨((p₁.trans p₂).trans p₃).trans ⟨.push _, ⟨rfl, rfl, rfl⟩⟩, ?_⟩⟩
    rw [m₂, m₃]; exact of_str) ht
theorem reps_take {F : Addr → Prop} {h : Heap} : ∀ {vs : List Value} {ds : List D} (n : Nat), reps F h vs ds → reps F h (vs.take n) (ds.take n)
  | _, _, 0, _ => by simp [reps]
  | v :: vs, d :: ds, n + 1, x => by simp only [reps, List.take_succ_cons] at x ⊢; exact ⟨x.1, reps_take n x.2⟩
  | [], [], n + 1, _ => by simp [reps]
  | [], _ :: _, _ + 1, x => by simp [reps] at x
  | _ :: _, [], _ + 1, x => by simp [reps] at x
theorem reps_drop {F : Addr → Prop} {h : Heap} : ∀ {vs : List Value} {ds : List D} (n : Nat), reps F h vs ds → reps F h (vs.drop n) (ds.drop n)
  | _, _, 0, x => by simpa using x
  | v :: vs, d :: ds, n + 1, x => by simp only [reps, List.drop_succ_cons] at x ⊢; exact reps_drop n x.2
  | [], [], n + 1, _ => by simp [reps]
  | [], _ :: _, _ + 1, x => by simp [reps] at x
  | _ :: _, [], _ + 1, x => by simp [reps] at x
theorem reps_slc {F : Addr → Prop} {h : Heap} {vs : List Value} {ds : List D} {a b : Option Int} (x : reps F h vs ds) : reps F h (slc vs a b) (slc ds a b) := by
  unfold slc
  rw [reps_length x]
  exact reps_drop _ (reps_take _ x)
/-- a list's slice, whatever it is of -/
theorem Ev.slL {value : Expr} {lo hi : Option Expr} {a b : Option Int} {p pos : Pos} {l : List D} (hv : Ev C ρ μ value (pd (.lst l))) (ha : EvP C ρ μ lo a) (hb : EvP C ρ μ hi b) (h1 : nn a) (h2 : nn b) (hl : l.length ≤ sizeLine) :
    Ev C ρ μ (.Subscript value (.Slice lo hi Option.none p) pos) (pd (.lst (slc l a b))) := fun F s f => by
  refine Subscript_ (wpMono (hv F s f) fun o s₁ ⟨p₁, h₁⟩ => wpAny_Slice (wpMono (ha.run (f.step p₁.p)) fun vl s₂ ⟨p₂, pl, e₂, m₂⟩ => wpMono (hb.run ((f.step p₁.p).step p₂.p)) fun vu s₃ ⟨p₃, pu, e₃, m₃⟩ => wpAny_evalPart_none ?_))
  have h₃ := (pd (B := B) (.lst l)).mono h₁ (p₂.trans p₃).p.any
  have f₃ := (((f.step p₁.p).step p₂.p).step p₃.p)
  obtain ⟨c, vs, rfl, hF, hq, hr⟩ := lst_of h₃
  have hq' := hq.pres hF (B := B) (.push { cls := .type "slice", data := .fields #[vl, vu, Value.none] })
  have part : ∀ p : Option (Int × Tok), IsPart (partValue p) (p.map (·.1)) := fun p => by
    cases p with
    | none => exact .none
    | some p => exact .int _ _
  have pl' := part pl
  have pu' := part pu
  rw [← e₂, m₂] at pl'
  rw [← e₃, m₃] at pu'
  refine tail_any (s := { s₃ with heap := s₃.heap.push { cls := .type "slice", data := .fields #[vl, vu, Value.none] } }) hq'.isList.typeIs slot_list_getitem.lookup (wpAny_getItem_list_slice hq'.isList ⟨_, push_get rfl, rfl, rfl⟩ pl' pu' .none (by simp) ?_ (by rw [List.size_toArray, reps_length hr]; exact hl)) rfl
  refine ⟨((p₁.trans p₂).trans p₃).trans ⟨(Pres.push _).trans (.push _), ⟨rfl, rfl, rfl⟩⟩, ?_⟩
  simp only [pd, rep]
  have e : slicePick vs.toArray a b Option.none = (slc vs a b).toArray := by
    rw [slicePick_plain]
    congr 1
    exact pick_slc vs a b h1 h2
  refine ⟨_, slc vs a b, rfl, fun q => ?_, ⟨0, ?_⟩, reps_slc ((hr.mono (Pres.push (B := B) _)).mono (Pres.push (B := B) _))⟩
  · have := f₃.lt _ q
    simp only [Heap.size_push] at this
    exact Nat.lt_irrefl _ (Nat.lt_of_succ_lt this)
  · rw [e]; exact push_get rfl
end Mine
open PySem PySem.W PyProof.Rows
set_option Elab.async false
set_option maxRecDepth 100000
set_option linter.unusedVariables false
set_option linter.unusedSimpArgs false
namespace Mine
variable {B : Bs} {C : Cx B} {ρ : Rho B} {μ : Mu B}
/-- names, written as a list -/
noncomputable def al (l : List (String × Pd B)) : Rho B := fun x => match l with
  | [] => none
  | (y, P) :: r => if x = Str.ofString y then some P else al r x
noncomputable def AllIn (ρ : Rho B) : List (String × Pd B) → Prop
  | [] => True
  | (y, P) :: r => ρ (Str.ofString y) = some P ∧ AllIn ρ r
theorem AllIn.sub : ∀ {l : List (String × Pd B)}, AllIn ρ l → ∀ x P, al l x = some P → ρ x = some P
  | [], _, _, _, h => by simp [al] at h
  | (y, Q) :: r, a, x, P, h => by
    unfold al at h
    by_cases hx : x = Str.ofString y
    · rw [if_pos hx] at h; cases h; rw [hx]; exact a.1
    · rw [if_neg hx] at h; exact AllIn.sub a.2 x P h
theorem Ev.wk {l : List (String × Pd B)} {e : Expr} {P : Pd B} (a : AllIn ρ l) (h : Ev C (al l) μ e P) : Ev C ρ μ e P := fun F s f => h F s (f.forget a.sub)
theorem EvT.wk {l : List (String × Pd B)} {e : Expr} {b : Bool} (a : AllIn ρ l) (h : EvT C (al l) μ e b) : EvT C ρ μ e b := fun F s f => h F s (f.forget a.sub)
theorem Ex.wk {l : List (String × Pd B)} {sts : List Stmt} {o : Out B} (a : AllIn ρ l) (h : Ex C (al l) μ sts o) : Ex C ρ μ sts o := fun F s f => h F s (f.forget a.sub)
theorem Ex1.wk {l : List (String × Pd B)} {st : Stmt} {o : Out B} (a : AllIn ρ l) (h : Ex1 C (al l) μ st o) : Ex1 C ρ μ st o := fun F s f => h F s (f.forget a.sub)
theorem Wh.wk {l : List (String × Pd B)} {t : Expr} {body : List Stmt} {o : Out B} (a : AllIn ρ l) (h : Wh C (al l) μ t body o) : Wh C ρ μ t body o := fun F s f => h F s (f.forget a.sub)
theorem Fo.wk {l : List (String × Pd B)} {t : Expr} {Ps : List (Pd B)} {body : List Stmt} {o : Out B} (a : AllIn ρ l) (h : Fo C (al l) μ Ps t body o) : Fo C ρ μ Ps t body o := fun F s I f => h F s I (f.forget a.sub)
/-- what is kept of the names behind a block -/
inductive OutSub : Out B → Out B → Prop
  | next {l : List (String × Pd B)} {ρ : Rho B} {μ : Mu B} (a : AllIn ρ l) : OutSub (.next ρ μ) (.next (al l) μ)
  | brk {l : List (String × Pd B)} {ρ : Rho B} {μ : Mu B} (a : AllIn ρ l) : OutSub (.brk ρ μ) (.brk (al l) μ)
  | cont {l : List (String × Pd B)} {ρ : Rho B} {μ : Mu B} (a : AllIn ρ l) : OutSub (.cont ρ μ) (.cont (al l) μ)
theorem OutSub.out {o o' : Out B} (x : OutSub o o') {F : Addr → Prop} {h h' : Heap} {fl : Flow} (y : OutM C F μ h o fl h') : OutM C F μ h o' fl h' := by
  cases x with
  | next a => cases fl with
    | next => obtain ⟨F', n⟩ := y; exact ⟨F', n.up, n.new, n.frm.forget a.sub, n.dom⟩
    | _ => exact y.elim
  | brk a => cases fl with
    | brk => obtain ⟨F', n⟩ := y; exact ⟨F', n.up, n.new, n.frm.forget a.sub, n.dom⟩
    | _ => exact y.elim
  | cont a => cases fl with
    | cont => obtain ⟨F', n⟩ := y; exact ⟨F', n.up, n.new, n.frm.forget a.sub, n.dom⟩
    | _ => exact y.elim
theorem Ex.to {sts : List Stmt} {o o' : Out B} (h : Ex C ρ μ sts o) (x : OutSub o o') : Ex C ρ μ sts o' := fun F s f => wpMono (h F s f) fun fl s' ⟨r, p, y⟩ => ⟨r, p, x.out y⟩
theorem Ex1.to {st : Stmt} {o o' : Out B} (h : Ex1 C ρ μ st o) (x : OutSub o o') : Ex1 C ρ μ st o' := fun F s f => wpMono (h F s f) fun fl s' ⟨r, p, y⟩ => ⟨r, p, x.out y⟩
theorem Wh.to {t : Expr} {body : List Stmt} {o o' : Out B} (h : Wh C ρ μ t body o) (x : OutSub o o') : Wh C ρ μ t body o' := fun F s f => codeAny_mono (h F s f) fun r s' y => by
  cases r with
  | ok fl => exact ⟨y.1, y.2.1, x.out y.2.2⟩
  | error e => exact y
theorem Fo.to {t : Expr} {Ps : List (Pd B)} {body : List Stmt} {o o' : Out B} (h : Fo C ρ μ Ps t body o) (x : OutSub o o') : Fo C ρ μ Ps t body o' := fun F s I f a b c d => codeAny_mono (h F s I f a b c d) fun r s' y => by
  cases r with
  | ok fl => exact ⟨y.1, y.2.1, x.out y.2.2⟩
  | error e => exact y
/-- x += e -/
theorem Ex1.aug {x : Str} {pos' pos : Pos} {op : Operator} {e : Expr} {P Q R : Pd B} (hx : ρ x = some P) (he : Ev C ρ μ e Q) (hk : Sto C x)
    (h : ∀ F s a b, Frm C F s.heap ρ μ → P.p F s.heap a → Q.p F s.heap b → wpAny (md B) C.A (inplaceOp op a b) (fun v s' => Stp B s s' ∧ R.p F s'.heap v) noE s)
    (hd : (x == ("__debug__" : Str)) = false := by decide) (hc : (x == ("__classdict__" : Str)) = false := by decide) : Ex1 C ρ μ (.AugAssign (.Name x pos') op e pos) (.next (upd ρ x R) μ) := fun F s f => by
  have hn : wpAny (md B) C.A (loadName C.env x) (fun v s' => s' = s ∧ P.p F s'.heap v) noE s := by
    rcases f.kinds x P hx with k | k | k
    · obtain ⟨m, hn, hm⟩ := f.loc
      obtain ⟨v, hv, hp⟩ := hm x P hx k
      exact wpAny_loadName_local f.kind k hn hv ⟨rfl, hp⟩
    · obtain ⟨c, v, hl, hv, hp⟩ := f.cel x P hx (.inl k)
      exact wpAny_loadName_cell f.kind k hl hv ⟨rfl, hp⟩
    · obtain ⟨c, v, hl, hv, hp⟩ := f.cel x P hx (.inr k)
      exact wpAny_loadName_free f.kind k hl hv ⟨rfl, hp⟩ hc
  refine wpAny_AugAssign_Name (wpMono hn fun a s₁ ⟨e₁, h₁⟩ => ?_)
  subst e₁
  refine wpMono (he F s₁ f) fun b s₂ ⟨p₂, h₂⟩ => wpMono (h F s₂ a b (f.step p₂.p) (P.mono h₁ p₂.p.any) h₂) fun v s₃ ⟨p₃, h₃⟩ => ?_
  exact wpMono (st_any ((f.step p₂.p).step p₃.p) h₃ hk) fun _ s₄ ⟨r₄, h₄, p₄⟩ => ⟨(p₂.r.trans p₃.r).trans r₄, ((p₂.p.trans p₃.p).any).trans p₄, F, .same h₄⟩
theorem Ex1.augI {x : Str} {pos' pos : Pos} {e : Expr} {i j : Int} (hx : ρ x = some (pint i)) (he : Ev C ρ μ e (pint j)) (hk : Sto C x) (hd : (x == ("__debug__" : Str)) = false := by decide) (hc : (x == ("__classdict__" : Str)) = false := by decide) :
    Ex1 C ρ μ (.AugAssign (.Name x pos') .Add e pos) (.next (upd ρ x (pint (i + j))) μ) := Ex1.aug hx he hk (fun F s a b f ha hb => by obtain ⟨t, rfl⟩ := int_of ha; obtain ⟨u, rfl⟩ := int_of hb; exact iadd_int ⟨.toks, of_int⟩) hd hc
theorem mkS_len0 {l : List Nat} : ((mkS l).length == 0) = l.isEmpty := by rw [mkS_length]; cases l <;> rfl
theorem Ex1.augS {x : Str} {pos' pos : Pos} {e : Expr} {i j : List Nat} (hx : ρ x = some (ptx i)) (he : Ev C ρ μ e (ptx j)) (hk : Sto C x) (hl : i.length + j.length ≤ 100000) (hd : (x == ("__debug__" : Str)) = false := by decide) (hc : (x == ("__classdict__" : Str)) = false := by decide) :
    Ex1 C ρ μ (.AugAssign (.Name x pos') .Add e pos) (.next (upd ρ x (ptx (i ++ j))) μ) := Ex1.aug hx he hk (fun F s a b f ha hb => by
      obtain ⟨t, rfl⟩ := str_of ha; obtain ⟨u, rfl⟩ := str_of hb
      refine PySem.P.iadd_str ?_
      rw [mkS_len0, mkS_len0]
      cases i with
      | nil => exact ⟨.refl, of_str⟩
      | cons c i => cases j with
        | nil => simp only [List.isEmpty_cons, List.isEmpty_nil, Bool.false_eq_true, if_false, if_true, List.append_nil]; exact ⟨.refl, of_str⟩
        | cons d j =>
          simp only [List.isEmpty_cons, Bool.false_eq_true, if_false]
          refine ⟨?_, .toks, ?_⟩
          · rw [mkS_append, mkS_length, List.length_append]; exact Nat.le_trans hl (by decide)
          · rw [mkS_append]; exact of_str) hd hc
end Mine
open PySem PySem.W PyProof.Rows
set_option Elab.async false
set_option maxRecDepth 100000
set_option linter.unusedVariables false
set_option linter.unusedSimpArgs false
namespace Mine
variable {B : Bs} {C : Cx B} {ρ : Rho B} {μ : Mu B}
noncomputable def AsgL {B : Bs} (C : Cx B) (ρ : Rho B) (μ : Mu B) (ts : List (Value → Sem Unit)) (Ps : List (Pd B)) (ρ' : Rho B) : Prop :=
  ∀ F s vs, Frm C F s.heap ρ μ → all2 F s.heap Ps vs → wpAny (md B) C.A (assignInOrder ts vs) (fun _ s' => Rest s s' ∧ Frm C F s'.heap ρ' μ ∧ Pres B (Mut C μ) s.heap s'.heap) noE s
theorem AsgL.nil : AsgL C ρ μ [] [] ρ := fun F s vs f h => by
  rw [all2_non h]
  exact wpAny_pure ⟨.refl, f, .refl⟩
theorem AsgL.cons {t : Expr} {ts : List (Value → Sem Unit)} {P : Pd B} {Ps : List (Pd B)} {ρ₁ ρ' : Rho B} (h : Asg C ρ μ t P ρ₁) (h' : AsgL C ρ₁ μ ts Ps ρ') : AsgL C ρ μ (assign t C.env :: ts) (P :: Ps) ρ' := fun F s vs f hv => by
  obtain ⟨v, vs, rfl, hv1, hv2⟩ := all2_one hv
  · replace hv := And.intro hv1 hv2
    refine wpAny_assignInOrder_more (wpMono (h F s v f hv.1) fun _ s₁ ⟨r₁, f₁, p₁⟩ => ?_)
    exact wpMono (h' F s₁ vs f₁ (hv.2.mono (p₁.weak fun b q => f.mutF q))) fun _ s₂ ⟨r₂, f₂, p₂⟩ => ⟨r₁.trans r₂, f₂, p₁.trans p₂⟩
theorem AsgL.bind {x : Str} {ts : List (Value → Sem Unit)} {P : Pd B} {Ps : List (Pd B)} {ρ' : Rho B} (hk : Sto C x) (h' : AsgL C (upd ρ x P) μ ts Ps ρ') : AsgL C ρ μ ((fun v => bindName C.env x v) :: ts) (P :: Ps) ρ' := fun F s vs f hv => by
  obtain ⟨v, vs, rfl, hv1, hv2⟩ := all2_one hv
  · replace hv := And.intro hv1 hv2
    refine wpAny_assignInOrder_more (wpAny_bindName (wpMono (st_any f hv.1 hk) fun _ s₁ ⟨r₁, f₁, p₁⟩ => ?_))
    exact wpMono (h' F s₁ vs f₁ (hv.2.mono (p₁.weak fun b q => f.mutF q))) fun _ s₂ ⟨r₂, f₂, p₂⟩ => ⟨r₁.trans r₂, f₂, p₁.trans p₂⟩
theorem unpack_tup {F : Addr → Prop} {s : Shared} {A : Around} {v : Value} {ds : List D} {n : Nat} (hh : A.handled = none) (f : Frm C F s.heap ρ μ) (hv : (pd (B := B) (.tup ds)).p F s.heap v) (hn : ds.length = n) :
    wpAny (md B) A (unpackItems v n none) (fun vs s' => Stp B s s' ∧ all2 (B := B) F s'.heap (ds.map pd) vs) noE s := by
  obtain ⟨a, vs, rfl, hF, hq, hr⟩ := tup_of hv
  have e : n = vs.toArray.size := by rw [List.size_toArray, reps_length hr, hn]
  rw [e]
  refine wpSize (wpAny_unpackItems_tuple (Q := fun l s' => l = vs ∧ Rest s s' ∧ Heap.ExtBut s.heap.objs.size s.heap s'.heap) hh (seq_isTuple hq) fun h' hx => ⟨rfl, ⟨rfl, rfl, rfl⟩, hx⟩) fun l s' ⟨e, r, hx⟩ hz => ?_
  subst e
  have p : Pres B none' s.heap s'.heap := .extBut hx (fun o e => by rw [Heap.get?_none_of_le (Nat.le_refl _)] at e; cases e) hz
  exact ⟨⟨p, r⟩, all2.pds.mpr (hr.mono p.any)⟩
theorem Asg.tuple {elts : List Expr} {k : Nat} {pos : Pos} {ds : List D} {ρ' : Rho B} (hh : C.A.handled = none) (h : AsgL C ρ μ ((assignEach elts C.env).map (·.2)) (ds.map pd) ρ')
    (hl : (assignEach elts C.env).length = ds.length := by rfl) (hs : (assignEach elts C.env).findIdx? (·.1) = none := by rfl) : Asg C ρ μ (.Tuple elts k pos) (pd (.tup ds)) ρ' := fun F s v f hv => by
  show wpAny (md B) C.A (do standAt pos; unpack v (assignEach elts C.env)) _ _ _
  refine wpAny_bind (wpAny_standAt ?_)
  unfold unpack
  rw [hs]
  refine wpAny_bind (wpAny_holding (wpMono (unpack_tup hh f hv hl.symm) fun vs s₁ ⟨p₁, h₁⟩ => ?_))
  exact wpMono (h F s₁ vs (f.step p₁.p) h₁) fun _ s₂ ⟨r₂, f₂, p₂⟩ => ⟨p₁.r.trans r₂, f₂, p₁.p.any.trans p₂⟩
theorem Ex1.assignT {elts : List Expr} {k : Nat} {tpos pos : Pos} {value : Expr} {P : Pd B} {ρ' : Rho B} (hv : Ev C ρ μ value P) (h : Asg C ρ μ (.Tuple elts k tpos) P ρ')
    (hs : swapsWithSole [.Tuple elts k tpos] value pos.line C.env = pure false := by rfl) (hw : swappedStores [.Tuple elts k tpos] value C.env = pure none := by rfl) : Ex1 C ρ μ (.Assign [.Tuple elts k tpos] value pos) (.next ρ' μ) := fun F s f =>
  Assign_Tuple (wpMono (hv F s f) fun v s₁ ⟨p₁, h₁⟩ => wpMono (h F s₁ v (f.step p₁.p) h₁) fun _ s₂ ⟨r₂, f₂, p₂⟩ => ⟨p₁.r.trans r₂, p₁.p.any.trans p₂, F, .same f₂⟩) hs hw
/-- and, or, not as values -/
theorem Ev.not {e : Expr} {pos : Pos} {b : Bool} (h : Ev C ρ μ e (pbool b)) : Ev C ρ μ (.UnaryOp .Not e pos) (pbool (!b)) := fun F s f =>
  wpAny_UnaryOp (wpMono (h F s f) fun v s₁ ⟨p₁, h₁⟩ => not_of (by rw [bool_of h₁]; exact truthy_b ⟨p₁, of_bool⟩))
theorem Ev.and2 {x y : Expr} {pos : Pos} {a : Bool} {b : Bool} (hx : Ev C ρ μ x (pbool a)) (hy : a = true → Ev C ρ μ y (pbool b)) : Ev C ρ μ (.BoolOp .And [x, y] pos) (pbool (a && b)) := fun F s f =>
  wpAny_And2 (wpMono (hx F s f) fun v s₁ ⟨p₁, h₁⟩ => by
    rw [bool_of h₁]
    refine truthy_b ?_
    cases a with
    | true => exact wpMono (hy rfl F s₁ (f.step p₁.p)) fun v s₂ ⟨p₂, h₂⟩ => ⟨p₁.trans p₂, by simpa using h₂⟩
    | false => exact ⟨p₁, of_bool⟩)
theorem Ev.or2 {x y : Expr} {pos : Pos} {a : Bool} {b : Bool} (hx : Ev C ρ μ x (pbool a)) (hy : a = false → Ev C ρ μ y (pbool b)) : Ev C ρ μ (.BoolOp .Or [x, y] pos) (pbool (a || b)) := fun F s f =>
  wpAny_Or2 (wpMono (hx F s f) fun v s₁ ⟨p₁, h₁⟩ => by
    rw [bool_of h₁]
    refine truthy_b ?_
    cases a with
    | false => exact wpMono (hy rfl F s₁ (f.step p₁.p)) fun v s₂ ⟨p₂, h₂⟩ => ⟨p₁.trans p₂, by simpa using h₂⟩
    | true => exact ⟨p₁, of_bool⟩)
end Mine
open PySem PySem.W PyProof.Rows
set_option Elab.async false
set_option maxRecDepth 100000
set_option linter.unusedVariables false
set_option linter.unusedSimpArgs false
namespace Mine
variable {B : Bs} {C : Cx B} {ρ : Rho B} {μ : Mu B}
/-- an owned list is changed -/
theorem Frm.setL {F : Addr → Prop} {h h' : Heap} {a : Addr} {Ps Ps' : List (Pd B)} {vs' : List Value} (f : Frm C F h ρ μ) (ha : μ a = some Ps) (hs : Heap.SameBut a h h') (hq : IsSeq h' "list" a vs') (hv : all2 F h Ps' vs') : Frm C F h' ρ (updM μ a Ps') ∧ Pres B (Mut C μ) h h' := by
  obtain ⟨hF, h0, vs, hq0, _⟩ := f.lst a Ps ha
  obtain ⟨n, e⟩ := id hq0
  have hm : Mut C μ a := .inr (.inr (by rw [ha]; rfl))
  have pM : Pres B (Mut C μ) h h' := .sameBut hs e (plain_seq rfl) hm
  obtain ⟨pF, p0⟩ := f.presL hs e (plain_seq rfl) hF (Heap.get?_none_of_le h0)
  obtain ⟨m, hn, hm'⟩ := f.loc
  refine ⟨{ base := f.base, pres := p0, kind := f.kind, glob := f.glob, blt := f.blt, fl := f.fl, lt := fun b q => Nat.lt_of_lt_of_le (f.lt b q) (Nat.le_of_eq hs.1.symm), fresh := f.fresh, stk := f.stk, loc := ⟨m, hn.sameBut hs (ns_ne_seq hn hq0).symm, fun x P q k => let ⟨v, a, b⟩ := hm' x P q k; ⟨v, a, P.mono b pF⟩⟩, cel := ?_, kinds := f.kinds, own := ?_, inj := f.inj, lst := ?_ }, pM⟩
  · intro x P q k
    obtain ⟨c, v, hl, hc, hp⟩ := f.cel x P q k
    exact ⟨c, v, hl, cell_sameBut hc hs (cell_ne_seq hc hq0).symm, P.mono hp pF⟩
  · intro x q k
    obtain ⟨c, v, hl, hF, h0, hc⟩ := f.own x q k
    exact ⟨c, v, hl, hF, h0, cell_sameBut hc hs (cell_ne_seq hc hq0).symm⟩
  · intro b Qs q
    unfold updM at q
    by_cases hb : b = a
    · rw [if_pos hb] at q; cases q; subst hb; exact ⟨hF, h0, vs', hq, hv.mono pF⟩
    · rw [if_neg hb] at q
      obtain ⟨x, y, ws, hz, hw⟩ := f.lst b Qs q
      exact ⟨x, y, ws, hz.sameBut hs hb, hw.mono pF⟩
theorem updM_dom {a : Addr} {Ps Ps' : List (Pd B)} {n : Nat} (ha : μ a = some Ps) : ∀ b, ((updM μ a Ps') b).isSome = true → (μ b).isSome = true ∨ n ≤ b := fun b q => by
  unfold updM at q
  by_cases hb : b = a
  · left; rw [hb, ha]; rfl
  · rw [if_neg hb] at q; exact .inl q
theorem Nxt.setL {F : Addr → Prop} {h h' : Heap} {a : Addr} {Ps Ps' : List (Pd B)} (ha : μ a = some Ps) (f : Frm C F h' ρ (updM μ a Ps')) : Nxt C F μ h ρ (updM μ a Ps') h' F := ⟨fun _ q => q, fun _ q => .inl q, f, updM_dom ha⟩
/-- a new list -/
noncomputable def EvN {B : Bs} (C : Cx B) (ρ : Rho B) (μ : Mu B) (e : Expr) (Ps : List (Pd B)) : Prop :=
  ∀ F s, Frm C F s.heap ρ μ → wpAny (md B) C.A (eval e C.env) (fun v s' => Stp B s s' ∧ ∃ a vs, v = .ref a ∧ s.heap.objs.size ≤ a ∧ IsSeq s'.heap "list" a vs ∧ all2 (fun b => F b ∨ b = a) s'.heap Ps vs) noE s
theorem EvN.list {es : List Expr} {pos : Pos} {Ps : List (Pd B)} (h : EvL C ρ μ es Ps) (hl : Ps.length ≤ sizeLine := by decide) : EvN C ρ μ (.List es pos) Ps := fun F s f =>
  List_ (wpMono (h F s pos f) fun vs s₁ ⟨p₁, h₁⟩ => wpAny_newList ⟨p₁.trans (.push _), _, vs, rfl, p₁.p.size, ⟨0, push_get rfl⟩, (h₁.weak (F' := fun b => F b ∨ b = s₁.heap.objs.size) fun b q => q.imp id fun q => Heap.get?_none_of_le (Nat.le_of_eq q.symm)).mono (Pres.push _)⟩ (by rw [h₁.length]; exact hl))
/-- a list that the frame owns, under a name -/
theorem Ex.own {x : Str} {pos' pos : Pos} {e : Expr} {Ps : List (Pd B)} {rest : List Stmt} {o : Out B} (h : EvN C ρ μ e Ps) (hk : Sto C x) (h' : ∀ a, μ a = none → Ex C (upd ρ x (pv (.ref a))) (updM μ a Ps) rest o)
    (hs : swapsWith e (some (.Name x pos')) pos.line C.env = pure false := by rfl) : Ex C ρ μ (.Assign [.Name x pos'] e pos :: rest) o := fun F s f => by
  refine wpAny_execs_cons (wpAny_Assign_Name (wpMono (h F s f) fun v s₁ ⟨p₁, a, vs, e, ha, hq, hv⟩ => ?_) hs)
  subst e
  have hfree : s.heap.get? a = none := Heap.get?_none_of_le ha
  have hμ : μ a = none := by
    cases hm : μ a with
    | none => rfl
    | some Qs => exact absurd (f.lt a (f.lst a Qs hm).1) (Nat.not_lt.mpr ha)
  obtain ⟨n, ea⟩ := id hq
  have f₁ := f.grow (F' := fun b => F b ∨ b = a) p₁.p (fun b q => q.imp id fun q => by rw [q]; exact hfree) (fun b q => .inl q) fun b q => q.elim (fun q => Nat.lt_of_lt_of_le (f.lt b q) p₁.p.size) fun q => by rw [q]; exact Heap.lt_size ea
  have l₂ : ∀ b Qs, updM μ a Ps b = some Qs → (F b ∨ b = a) ∧ C.h₀.objs.size ≤ b ∧ ∃ vs, IsSeq s₁.heap "list" b vs ∧ all2 (fun b => F b ∨ b = a) s₁.heap Qs vs := fun b Qs q => by
    unfold updM at q
    by_cases hb : b = a
    · rw [if_pos hb] at q; cases q; subst hb; exact ⟨.inr rfl, Nat.le_trans f.pres.size ha, vs, hq, hv⟩
    · rw [if_neg hb] at q; exact f₁.lst b Qs q
  have f₂ : Frm C (fun b => F b ∨ b = a) s₁.heap ρ (updM μ a Ps) := { f₁ with lst := l₂ }
  have n₁ : Nxt C F μ s.heap ρ (updM μ a Ps) s₁.heap (fun b => F b ∨ b = a) := ⟨fun b q => .inl q, fun b q => q.imp id fun q => by rw [q]; exact ha, f₂, fun b q => by
    unfold updM at q
    by_cases hb : b = a
    · right; rw [hb]; exact ha
    · rw [if_neg hb] at q; exact .inl q⟩
  refine wpMono (st_any (P := pv (.ref a)) f₂ rfl hk) fun _ s₂ ⟨r₂, f₃, p₂⟩ => wpMono (h' a hμ _ s₂ f₃) fun fl s₃ ⟨r₃, h₃⟩ => ⟨(p₁.r.trans r₂).trans r₃, ?_⟩
  exact n₁.out p₁.p.any (Nxt.out p₂ (.same f₃) h₃)
/-- x.append(e) -/
theorem Ex1.append {x : Str} {np apos pos pos' : Pos} {e : Expr} {P : Pd B} {a : Addr} {Ps : List (Pd B)} (hx : Ev C ρ μ (.Name x np) (pv (.ref a))) (ha : μ a = some Ps) (he : Ev C ρ μ e P) (hz : Ps.length ≤ sizeLine)
    (hfew : ((backTo pos (starEach [e] C.env)).all (fun x => !x.1) && (backToKw pos (keywordEach [] C.env)).all (fun x => x.1.isSome) && decide (([e] : List Expr).length + ([] : List Keyword).length + (if ([] : List Keyword).isEmpty then 0 else 1) < 30)) = true := by rfl)
    (hline : (apos.endLine == pos.line) = true := by rfl) (htrees : backTo pos (starEach [e] C.env) = [(false, eval e C.env)] := by rfl)
    (hi : interactive C.env = false := by rfl) (hs : swapsWith (.Call (.Attribute (.Name x np) "append" apos) [e] [] pos) none pos'.line C.env = pure false := by rfl) :
    Ex1 C ρ μ (.Expr (.Call (.Attribute (.Name x np) "append" apos) [e] [] pos) pos') (.next ρ (updM μ a (Ps ++ [P]))) := fun F s f => by
  refine wpAny_Expr_any (wpAny_Call_append (by rfl) hfew hline htrees (wpMono (hx F s f) fun v s₁ ⟨p₁, e₁⟩ => ?_)) hi hs
  obtain rfl : v = .ref a := e₁
  have f₁ := f.step p₁.p
  obtain ⟨hF, h0, vs, ⟨n, eq⟩, _⟩ := f₁.lst a Ps ha
  refine ⟨a, vs.toArray, rfl, ⟨_, n, eq, rfl, rfl, rfl⟩, wpMono (he F s₁ f₁) fun y s₂ ⟨p₂, h₂⟩ => ?_⟩
  have f₂ := f₁.step p₂.p
  obtain ⟨hF, h0, ws, hq, hw⟩ := f₂.lst a Ps ha
  refine wpAny_list_append_plain (items := ws.toArray) hq (fun h' hq' hs' => ?_) (by rw [List.size_toArray, hw.length]; exact hz)
  obtain ⟨f₃, p₃⟩ := f₂.setL (Ps' := Ps ++ [P]) (vs' := ws ++ [y]) ha hs' (let ⟨n, e⟩ := hq'; ⟨n, by rw [e]; simp⟩) (hw.append ⟨h₂, trivial⟩)
  exact ⟨⟨p₂.r.1.trans p₁.r.1, p₂.r.2.trans p₁.r.2, p₂.r.3.trans p₁.r.3⟩, (p₁.p.trans p₂.p).any.trans p₃, F, .setL ha f₃⟩
end Mine
open PySem PySem.W PyProof.Rows
set_option Elab.async false
set_option maxRecDepth 100000
set_option linter.unusedVariables false
set_option linter.unusedSimpArgs false
namespace Mine
variable {B : Bs} {C : Cx B} {ρ : Rho B} {μ : Mu B}
/-- the methods of the built-in kinds -/
theorem Ev.meth {o : Expr} {name : Str} {apos pos : Pos} {args : List Expr} {T id : String} {P R : Pd B} {Ps : List (Pd B)} {n : Nat} {H : Option Value → Prop} (ho : Ev C ρ μ o P) (hT : ∀ (F : Addr → Prop) (s : Shared) (v : Value), P.p F s.heap v → s.TypeIs v T ∧ ∀ a, v = .ref a → ∃ ob, s.heap.get? a = some ob ∧ ob.dict = Option.none)
    (ha : EvL C ρ μ args Ps) (hn : Fn B n (.builtin id) (P :: Ps) R H) (hr : Room n C.A) (hh : H C.A.handled) (pa : PlainAttrs T) (slot : Slot T name id) (hty : typeOf (.builtin id) = pure (.type "method_descriptor"))
    (hbase : attributeBase o name C.env (eval o C.env) = eval o C.env := by rfl)
    (hfew : ((backTo pos (starEach args C.env)).all (fun x => !x.1) && (backToKw pos (keywordEach [] C.env)).all (fun x => x.1.isSome) && decide (args.length + ([] : List Keyword).length + (if ([] : List Keyword).isEmpty then 0 else 1) < 30)) = true := by rfl)
    (hline : (apos.endLine == pos.line) = true := by rfl) (hp : (backTo pos (starEach args C.env)).any (·.1) = false := by rfl) : Ev C ρ μ (.Call (.Attribute o name apos) args [] pos) R := fun F s f =>
  wpAny_Call_method hbase hfew hline pa slot hty (wpMono (ho F s f) fun ov s₁ ⟨p₁, h₁⟩ => by
    obtain ⟨t1, t2⟩ := hT F s₁ ov h₁
    refine ⟨t1, t2, callWith_any trivial hp (wpMono (ha F s₁ pos (f.step p₁.p)) fun vs s₂ ⟨p₂, h₂⟩ => ?_)⟩
    have f₂ := (f.step p₁.p).step p₂.p
    exact ⟨f₂.h, wpMono (hn.call F C.A s₂ (ov :: vs) hr hh f₂.stack f₂.h f₂.lt ⟨P.mono h₁ p₂.p.any, h₂⟩) fun r s₃ ⟨p₃, h₃⟩ => ⟨(p₁.trans p₂).trans p₃, h₃⟩⟩)
end Mine
open PySem PySem.W PyProof.Rows
set_option Elab.async false
set_option maxRecDepth 100000
set_option linter.unusedVariables false
set_option linter.unusedSimpArgs false
namespace Mine
variable {B : Bs} {C : Cx B} {ρ : Rho B} {μ : Mu B}
theorem cnt_eq (c : Nat) : ∀ l : List Nat, cnt c l = (l.count c : Int)
  | [] => rfl
  | n :: r => by
    rw [cnt_cons, cnt_eq c r, List.count_cons]
    by_cases h : n = c
    · simp [h]; lia
    · simp [h]
theorem fn_count {H : Option Value → Prop} (l : List Nat) (c : Nat) : Fn B 0 (.builtin "str.count") [ptx l, ptx [c]] (pint (l.count c)) H where
  kept := trivial
  call := fun F A s vs hr hh hst hb hlt hv => by
    obtain ⟨v, w, rfl, h1, h2⟩ := two_args hv
    obtain ⟨t, rfl⟩ := str_of h1
    obtain ⟨u, rfl⟩ := str_of h2
    refine SC.count ⟨.toks, ?_⟩
    have e : Txt.count (mkS l) (mkS [c]) = (l.count c : Int) := by
      rw [show mkS [c] = (⟨#[c]⟩ : Str) from rfl, count_cnt, cnt_eq]; rfl
    rw [e]; exact of_int
theorem Ev.countS {o a : Expr} {apos pos : Pos} {l : List Nat} {c : Nat} (ho : Ev C ρ μ o (ptx l)) (ha : Ev C ρ μ a (ptx [c])) (hr : Room 0 C.A)
    (hbase : attributeBase o (Str.ofString "count") C.env (eval o C.env) = eval o C.env := by rfl) (hst : starEach [a] C.env = [(false, eval a C.env)] := by rfl)
    (hline : (apos.endLine == pos.line) = true := by rfl) : Ev C ρ μ (.Call (.Attribute o (Str.ofString "count") apos) [a] [] pos) (pint (l.count c)) :=
  Ev.meth ho (fun F s v h => by obtain ⟨t, rfl⟩ := str_of h; exact ⟨typeIs_str s _ _, fun _ e => nomatch e⟩) (EvL.cons ha EvL.nil hst) (fn_count (H := fun _ => True) l c) hr trivial PySem.F.plainAttrs_str PySem.F.slot_str_count PySem.F.type_str_count hbase (by rw [hst]; rfl) hline (by rw [hst]; rfl)
theorem strs_of {F : Addr → Prop} {h : Heap} : ∀ {vs : List Value} {ss : List Str}, reps F h vs (ss.map .str) → CarriedAll vs (ss.map PyData.str)
  | [], [], _ => .nil
  | v :: vs, n :: ns, x => by
    simp only [List.map_cons, reps, rep] at x
    obtain ⟨⟨t, rfl⟩, r⟩ := x
    exact .cons (.str _ _) (strs_of r)
  | [], _ :: _, x => by simp [reps] at x
  | _ :: _, [], x => by simp [reps] at x
theorem join_flat (ls : List (List Nat)) : Txt.join (Str.ofString "") (ls.map mkS) = mkS ls.flatten := by
  show Builtin.Str.glued (Str.ofString "") (ls.map mkS) = _
  rw [StrLaws.glued_eq_join]
  have e0 : Str.ofString "" = mkS [] := rfl
  rw [e0]
  have app : ∀ a b : List Nat, mkS a ++ mkS [] ++ mkS b = mkS (a ++ b) := fun a b => by rw [mkS_append, mkS_append, List.append_nil]
  induction ls with
  | nil => rfl
  | cons l ls ih => cases ls with
    | nil => simp [Str.join]
    | cons m ls =>
      have : Str.join (mkS []) (List.map mkS (l :: m :: ls)) = mkS l ++ mkS [] ++ Str.join (mkS []) (List.map mkS (m :: ls)) := rfl
      rw [this, ih, app]; simp
theorem fn_join {H : Option Value → Prop} (ls : List (List Nat)) (hl : ∀ l ∈ ls, l.length ≤ 1) (hn : ls.length ≤ 1000) : Fn B 0 (.builtin "str.join") [ptx [], pd (.lst (ls.map fun l => .str (mkS l)))] (ptx ls.flatten) H where
  kept := trivial
  call := fun F A s vs hr hh hst hb hlt hv => by
    obtain ⟨v, w, rfl, h1, h2⟩ := two_args hv
    obtain ⟨t, rfl⟩ := str_of h1
    obtain ⟨a, ws, rfl, hF, hq, hr⟩ := lst_of h2
    refine PySem.W.KT.join_B (l := ls) (g := mkS) 1 hq.isList (by have := strs_of (ss := ls.map mkS) (by rw [List.map_map]; exact hr); rw [List.map_map] at this; exact this) (fun l h => by rw [mkS_length]; exact hl l h) (by lia) (by decide) fun t' k => ⟨.toks, ?_⟩
    have := join_flat ls
    rw [show (mkS ([] : List Nat)) = Str.ofString "" from rfl, this]; exact of_str
theorem fn_strI {H : Option Value → Prop} (i : Int) (h : i.natAbs.log2 < 1920) : Fn B 0 (.type "str") [pint i] (pstr (toString i)) H where
  kept := trivial
  call := fun F A s vs hr hh hst hb hlt hv => by
    obtain ⟨v, rfl, h1⟩ := one_arg hv
    obtain ⟨t, rfl⟩ := int_of h1
    exact PySem.P.str_of_int h ⟨.toks, of_str⟩
theorem fn_sum (ns : List Int) : Fn B 0 (.builtin "sum") [pd (.lst (ns.map .int))] (pint ns.sum) where
  kept := trivial
  call := fun F A s vs hr hh hst hb hlt hv => by
    obtain ⟨v, rfl, h1⟩ := one_arg hv
    obtain ⟨a, ws, rfl, hF, hq, hr⟩ := lst_of h1
    obtain ⟨xs, e⟩ : ∃ xs : List (Int × Tok), ws = xs.map (fun p => Value.int p.1 p.2) ∧ xs.map (·.1) = ns := by
      clear h1 hq hv
      induction ns generalizing ws with
      | nil => cases ws with
        | nil => exact ⟨[], rfl, rfl⟩
        | cons _ _ => simp [reps] at hr
      | cons n ns ih => cases ws with
        | nil => simp [reps] at hr
        | cons w ws =>
          simp only [List.map_cons, reps, rep] at hr
          obtain ⟨⟨t, rfl⟩, hr⟩ := hr
          obtain ⟨xs, rfl, e⟩ := ih ws hr
          exact ⟨(n, t) :: xs, rfl, by simp [e]⟩
    obtain ⟨rfl, e2⟩ := e
    have hl : s.heap.IsList a (intItems xs.toArray) := by
      have := hq.isList
      rw [show (xs.map (fun p => Value.int p.1 p.2)).toArray = intItems xs.toArray from by simp [intItems]] at this
      exact this
    refine wpSize (sum_intListG (Q := fun v s' => ∃ t', v = .int ns.sum t' ∧ Rest s s' ∧ ∀ b o, s.heap.get? b = some o → s'.heap.get? b = some o) hh hl fun h' tk t' hk => ⟨t', ?_, ⟨rfl, rfl, rfl⟩, hk⟩) fun v s' ⟨t', e, r, hk⟩ hz => ?_
    · rw [preSum_eq, ← e2, List.take_of_length_le (by simp)]
    · subst e; exact ⟨⟨.of_keep hk hz, r⟩, of_int⟩
end Mine
open PySem PySem.W PyProof.Rows
set_option Elab.async false
set_option maxRecDepth 100000
set_option linter.unusedVariables false
set_option linter.unusedSimpArgs false
namespace Mine
variable {B : Bs} {C : Cx B} {ρ : Rho B} {μ : Mu B}
open PySem.SeqAt
mutual
noncomputable def dep : D → Nat
  | .tup l => deps l + 1
  | .lst l => deps l + 1
  | _ => 0
noncomputable def deps : List D → Nat
  | [] => 0
  | d :: ds => max (dep d) (deps ds)
end
mutual
theorem eq_same {F : Addr → Prop} {s : Shared} : ∀ (d : D) (A : Around) (v w : Value), rep F s.heap v d → rep F s.heap w d → A.units + dep d < cLine → EqAt A s v w true
  | .none, A, v, w, x, y, _ => by simp only [rep] at x y; subst x; subst y; exact EqAt.same _
  | .bool b, A, v, w, x, y, _ => by simp only [rep] at x y; subst x; subst y; exact EqAt.same _
  | .int i, A, v, w, x, y, _ => by
    simp only [rep] at x y
    obtain ⟨t, rfl⟩ := x; obtain ⟨u, rfl⟩ := y
    intro prog w' E Q hq
    exact wpAny_eqBool_int (by rw [beq_self_eq_true]; exact hq)
  | .str i, A, v, w, x, y, _ => by
    simp only [rep] at x y
    obtain ⟨t, rfl⟩ := x; obtain ⟨u, rfl⟩ := y
    intro prog w' E Q hq
    exact wpAny_eqBool_str (by simpa using hq)
  | .tup l, A, v, w, x, y, hu => by
    simp only [rep] at x y
    obtain ⟨a, vs, rfl, _, hq, hr⟩ := x
    obtain ⟨b, ws, rfl, _, hq', hr'⟩ := y
    by_cases hab : a = b
    · subst hab; exact EqAt.same _
    · simp only [dep] at hu
      have e1 := reps_length hr
      have e2 := reps_length hr'
      refine EqAt.of_refs hab ?_
      have := RcAt.tuples (A := A) (e := fun _ => true) (seq_isTuple hq) (seq_isTuple hq') (by lia) (fun j h1 h2 => by
        have h1' : j < l.length := by simp at h1; lia
        simp only [List.getElem_toArray]
        exact eq_sames l A.in1 vs ws hr hr' (by show A.units + 1 + _ < _; lia) j (by simp at h1; exact h1) (by simp at h2; exact h2))
      have e : ((List.range (min vs.toArray.size ws.toArray.size)).all (fun _ => true) && vs.toArray.size == ws.toArray.size) = true := by simp [e1, e2]
      rw [e] at this
      exact this
  | .lst l, A, v, w, x, y, hu => by
    simp only [rep] at x y
    obtain ⟨a, vs, rfl, _, hq, hr⟩ := x
    obtain ⟨b, ws, rfl, _, hq', hr'⟩ := y
    by_cases hab : a = b
    · subst hab; exact EqAt.same _
    · simp only [dep] at hu
      have e1 := reps_length hr
      have e2 := reps_length hr'
      refine EqAt.of_refs hab ?_
      have := RcAt.lists (A := A) (e := fun _ => true) hq.isList hq'.isList (by simp [e1, e2]) (by lia) (fun j h1 h2 => by
        simp only [List.getElem_toArray]
        exact eq_sames l A.in1 vs ws hr hr' (by show A.units + 1 + _ < _; lia) j (by simp at h1; exact h1) (by simp at h2; exact h2))
      have e : ((List.range vs.toArray.size).all (fun _ => true)) = true := by simp
      rw [e] at this
      exact this
theorem eq_sames {F : Addr → Prop} {s : Shared} : ∀ (l : List D) (A : Around) (vs ws : List Value), reps F s.heap vs l → reps F s.heap ws l → A.units + deps l < cLine → ∀ j (h1 : j < vs.length) (h2 : j < ws.length), EqAt A s vs[j] ws[j] true
  | [], A, vs, ws, x, y, hu, j, h1, h2 => by
    cases vs with
    | nil => simp at h1
    | cons _ _ => simp [reps] at x
  | d :: ds, A, vs, ws, x, y, hu, j, h1, h2 => by
    cases vs with
    | nil => simp at h1
    | cons v vs => cases ws with
      | nil => simp at h2
      | cons w ws =>
        simp only [reps] at x y
        simp only [deps] at hu
        cases j with
        | zero => exact eq_same d A v w x.1 y.1 (by lia)
        | succ j => exact eq_sames ds A vs ws x.2 y.2 (by lia) j (by simpa using h1) (by simpa using h2)
end
end Mine
open PySem PySem.W PyProof.Rows
set_option Elab.async false
set_option maxRecDepth 100000
set_option linter.unusedVariables false
set_option linter.unusedSimpArgs false
namespace Mine
variable {B : Bs} {C : Cx B} {ρ : Rho B} {μ : Mu B}
theorem codeAmong_app {pos : Pos} {l c : Nat} {x : Value} : ∀ (ps : List Value), TriplesOk ps → codeAmong pos (ps ++ [rawInt l, rawInt c, x]) = match codeAmong pos ps with | some v => some v | none => if pos.line = l ∧ pos.col = c then some x else none
  | [], _ => by
    have e : codeAmong pos ([] ++ [rawInt l, rawInt c, x]) = if ((l : Int) == (pos.line : Int)) && ((c : Int) == (pos.col : Int)) then some x else none := rfl
    rw [e]
    simp only [codeAmong]
    by_cases h : pos.line = l ∧ pos.col = c
    · rw [if_pos h, if_pos (by simp [h.1, h.2])]
    · rw [if_neg h, if_neg (by simp; intro h1 h2; exact h ⟨by lia, by lia⟩)]
  | .int a t :: .int b u :: v :: r, h => by
    have ih := codeAmong_app (pos := pos) (l := l) (c := c) (x := x) r h
    simp only [List.cons_append, codeAmong]
    by_cases hc : ((a == (pos.line : Int)) && (b == (pos.col : Int))) = true
    · rw [if_pos hc, if_pos hc]
    · rw [if_neg hc, if_neg hc]; exact ih
/-- a table without entries is good -/
theorem GoodTab.empty {h : Heap} {P : Addr} (e : h.get? P = some (tabObj #[])) : ∀ k, GoodTab B h k P
  | 0 => ⟨#[], e, trivial, fun pos v q => nomatch q⟩
  | _ + 1 => ⟨#[], e, trivial, fun pos v q => nomatch q⟩
theorem CodeHd.inj {h : Heap} {c P P' : Addr} (x : CodeHd h c P) (y : CodeHd h c P') : P = P' := by
  obtain ⟨o, vs, _, _, _, _, _, _, _, e, _, d, g, _⟩ := x
  obtain ⟨o', vs', _, _, _, _, _, _, _, e', _, d', g', _⟩ := y
  rw [e] at e'; cases e'; rw [d] at d'; cases d'; rw [g] at g'; cases g'; rfl
/-- a table that has won an entry -/
theorem GoodTab.grow {h h' : Heap} {P c' P' : Addr} {ps : Array Value} {l c : Nat} (hx : Heap.ExtBut P h h') (hP : h.get? P = some (tabObj ps)) (ht : TriplesOk ps.toList) (hP' : h'.get? P = some (tabObj (ps ++ #[rawInt l, rawInt c, .ref c'])))
    (ht' : TriplesOk (ps ++ #[rawInt l, rawInt c, .ref c']).toList) (hg : GoodCode B h' l c c') (hh : CodeHd h' c' P') (he : h'.get? P' = some (tabObj #[])) : ∀ k b, GoodTab B h k b → GoodTab B h' k b := by
  have code : ∀ {l c x}, GoodCode B h l c x → GoodCode B h' l c x := fun {l c x} ⟨q, hq, o, vs, t, P₁, e, hc, hd, hv, hh, hm⟩ => by
    have ne : ∀ {a : Addr} {o : Obj}, h.get? a = some o → o.cls = .type "code" → a ≠ P := fun e hc q => by rw [q, hP] at e; cases e; cases hc
    refine ⟨q, hq, o, vs, t, P₁, hx _ _ (ne e hc) e, hc, hd, hv, ?_, hm⟩
    obtain ⟨o', vs', file, tf, flags, tg, inF, text, tt, e', hc', r⟩ := hh
    exact ⟨o', vs', file, tf, flags, tg, inF, text, tt, hx _ _ (ne e' hc') e', hc', r⟩
  have back : ∀ {l c x P₂}, GoodCode B h l c x → CodeHd h' x P₂ → CodeHd h x P₂ := fun {l c x P₂} ⟨q, hq, o, vs, t, P₁, e, hc, _⟩ y =>
    CodeHd.back e (hx _ _ (fun q => by rw [q, hP] at e; cases e; cases hc) e) y
  intro k
  induction k with
  | zero =>
    rintro b ⟨ps₁, e, t, hv⟩
    by_cases hb : b = P
    · subst hb
      rw [hP] at e; cases e
      refine ⟨_, hP', ht', fun pos v q => ?_⟩
      simp only [Array.toList_append] at q
      rw [codeAmong_app _ ht] at q
      split at q
      · rename_i v' hv'; cases q; obtain ⟨x, e1, e2⟩ := hv pos _ hv'; exact ⟨x, e1, code e2⟩
      · split at q
        · rename_i hpc; cases q; exact ⟨c', rfl, by rw [hpc.1, hpc.2]; exact hg⟩
        · cases q
    · exact ⟨ps₁, hx _ _ hb e, t, fun pos v q => let ⟨x, e1, e2⟩ := hv pos v q; ⟨x, e1, code e2⟩⟩
  | succ k ih =>
    rintro b ⟨ps₁, e, t, hv⟩
    by_cases hb : b = P
    · subst hb
      rw [hP] at e; cases e
      refine ⟨_, hP', ht', fun pos v q => ?_⟩
      simp only [Array.toList_append] at q
      rw [codeAmong_app _ ht] at q
      split at q
      · rename_i v' hv'; cases q; obtain ⟨x, e1, e2, e3⟩ := hv pos _ hv'; exact ⟨x, e1, code e2, fun P₂ y => ih _ (e3 P₂ (back e2 y))⟩
      · split at q
        · rename_i hpc; cases q; exact ⟨c', rfl, by rw [hpc.1, hpc.2]; exact hg, fun P₂ y => by obtain rfl := CodeHd.inj hh y; exact GoodTab.empty he k⟩
        · cases q
    · exact ⟨ps₁, hx _ _ hb e, t, fun pos v q => let ⟨x, e1, e2, e3⟩ := hv pos v q; ⟨x, e1, code e2, fun P₂ y => ih _ (e3 P₂ (back e2 y))⟩⟩
/-- the code of an inner def or lambda: met before, or made now -/
theorem fcode {env : Env} {A : Around} {s : Shared} {c P : Addr} {k : Nat} {pos : Pos} {fl : Nat} {name qual : Str} {params : Arguments} {scope : Scope} {body : FuncBody} (hb : Base B s.heap) (hc : env.code = .ref c) (hC : CodeHd s.heap c P) (hT : GoodTab B s.heap k P) (hm : B.mt P)
    (hq : B.qual pos.line pos.col = some qual) :
    wpAny (md B) A (functionCode env pos fl name qual params scope body) (fun v s' => ∃ c', v = .ref c' ∧ Stp B s s' ∧ GoodCode B s'.heap pos.line pos.col c' ∧ ∀ k', k = k' + 1 → ∀ P', CodeHd s'.heap c' P' → GoodTab B s'.heap k' P') noE s := by
  obtain ⟨ps, e, ht, hx⟩ : ∃ ps, s.heap.get? P = some (tabObj ps) ∧ TriplesOk ps.toList ∧ ∀ (pos : Pos) v, codeAmong pos ps.toList = some v → ∃ c, v = .ref c ∧ GoodCode B s.heap pos.line pos.col c ∧ ∀ k', k = k' + 1 → ∀ P', CodeHd s.heap c P' → GoodTab B s.heap k' P' := by
    cases k with
    | zero => obtain ⟨ps, e, ht, hx⟩ := hT; exact ⟨ps, e, ht, fun pos v q => let ⟨c, e1, e2⟩ := hx pos v q; ⟨c, e1, e2, fun k' q => nomatch q⟩⟩
    | succ k => obtain ⟨ps, e, ht, hx⟩ := hT; exact ⟨ps, e, ht, fun pos v q => let ⟨c, e1, e2, e3⟩ := hx pos v q; ⟨c, e1, e2, fun k' q => by cases q; exact e3⟩⟩
  have hcode := hC.code e ht
  cases hf : codeAmong pos ps.toList with
  | some v =>
    obtain ⟨c', rfl, g1, g2⟩ := hx pos v hf
    exact wpAny_functionCode_hit hc hcode hf ⟨c', rfl, .refl, g1, g2⟩
  | none =>
    refine wpSize (wpAny_functionCodeX (Q := fun v s' => ∃ c', v = .ref c' ∧ Rest s s' ∧ Heap.ExtBut P s.heap s'.heap ∧ s.heap.objs.size ≤ c' ∧ s'.heap.IsCode c P (ps ++ #[rawInt pos.line, rawInt pos.col, .ref c']) ∧ s'.heap.CodeRec (.ref c') qual ∧
      s'.heap.TableAt c P (ps ++ #[rawInt pos.line, rawInt pos.col, .ref c']) ∧ ∃ P', s.heap.objs.size ≤ P' ∧ s'.heap.IsCode c' P' #[] ∧ s'.heap.TableAt c' P' #[]) hc hcode (hC.tab e) hf fun c' h' tk h1 h2 h3 h4 h5 h6 h7 => ⟨c', rfl, ⟨rfl, rfl, rfl⟩, h1, h2, h4, h5, h6, h7⟩) fun v s' ⟨c', ev, r, h1, h2, h4, h5, h6, P', h7, h8, h9⟩ hz => ?_
    subst ev
    have hh : CodeHd s'.heap c' P' := CodeHd.of h8 h9
    have hg : GoodCode B s'.heap pos.line pos.col c' := by
      obtain ⟨c₂, o, vs, t, e2, g1, g2, g3⟩ := h5
      cases e2
      obtain ⟨⟨o', vs', f1, f2, f3, f4⟩, _⟩ := id h9
      rw [g1] at f1; cases f1
      exact ⟨qual, hq, o, vs, t, P', g1, f2, g2, g3, hh, .inr (Nat.le_trans hb.size h7)⟩
    have ht' : TriplesOk (ps ++ #[rawInt pos.line, rawInt pos.col, Value.ref c']).toList := by
      obtain ⟨_, _, _, _, _, _, _, _, _, op, _, _, _, _, _, _, _, g1, g2, g3, _⟩ := h4
      exact g3
    refine ⟨c', rfl, ⟨⟨fun b o eb _ f => h1 b o (fun q => ?_) eb, fun b o eb _ f => ⟨o.slots, h1 b o (fun q => by subst q; rw [e] at eb; cases eb; cases f) eb⟩, GoodTab.grow h1 e ht h6.2 ht' hg hh h9.2, hz⟩, r⟩, hg, fun k' _ P₂ y => ?_⟩
    · subst q; rw [e] at eb; cases eb
      rcases f with f | f
      · cases f
      · exact f hm
    · obtain rfl := CodeHd.inj hh y; exact GoodTab.empty h9.2 k'
end Mine
open PySem PySem.W PyProof.Rows
set_option Elab.async false
set_option maxRecDepth 100000
set_option linter.unusedVariables false
set_option linter.unusedSimpArgs false
namespace Mine
variable {B : Bs} {C : Cx B} {ρ : Rho B} {μ : Mu B}
noncomputable abbrev mkFd (name qual : Str) (params : Arguments) (body : FuncBody) (scope : Scope) (clos : List (Str × Addr)) (dV pm doc ctv : Value) (c' : Addr) : FuncData :=
  { name, qualname := qual, params, body, scope, globals := mainGlobals, closure := clos, closureTuple := ctv, code := .ref c', builtins := builtinsNs, defaults := dV, kwdefaults := .none, annotations := none, pyModule := pm, doc }
theorem CodeHd.keeps' {h h' : Heap} {c P : Addr} (x : CodeHd h c P) (p : Pres B none' h h') : CodeHd h' c P := by
  obtain ⟨o, vs, file, tf, flags, tg, inF, text, tt, e, hc, r⟩ := x
  exact ⟨o, vs, file, tf, flags, tg, inF, text, tt, p.obj _ _ e (.inl fun q => q) (.inl (var_fields hc r.1)), hc, r⟩
/-- a function has been made -/
structure MadeFn (B : Bs) (k : Nat) (s s' : Shared) (a : Addr) (name qual : Str) (params : Arguments) (body : FuncBody) (scope : Scope) (clos : List (Str × Addr)) (dV : Value) (pos : Pos) : Prop where
  stp : Stp B s s'
  new : s.heap.objs.size ≤ a
  obj : ∃ pm doc ctv c', s'.heap.get? a = some { cls := .type "function", data := .func (mkFd name qual params body scope clos dV pm doc ctv c') } ∧ GoodCode B s'.heap pos.line pos.col c' ∧ ∀ k', k = k' + 1 → ∀ P', CodeHd s'.heap c' P' → GoodTab B s'.heap k' P'
theorem mkTail {env : Env} {A : Around} {s : Shared} {c P : Addr} {k : Nat} {pos : Pos} {fl : Nat} {name qual : Str} {params : Arguments} {scope : Scope} {body : FuncBody} {clos : List (Str × Addr)} {dV : Value} (hb : Base B s.heap) (hg : env.globals = mainGlobals) (hcl : closureFor scope env = pure clos)
    (hc : env.code = .ref c) (hC : CodeHd s.heap c P) (hT : GoodTab B s.heap k P) (hm : B.mt P) (hq : B.qual pos.line pos.col = some qual) (hz : clos.length ≤ sizeLine) :
    wpAny (md B) A (makeTail name qual params body scope env dV .none none pos fl) (fun v s' => ∃ a, v = .ref a ∧ MadeFn B k s s' a name qual params body scope clos dV pos) noE s := by
  unfold makeTail
  rw [hcl, hg]
  refine wpAny_bind (wpAny_pure ?_)
  have tail : ∀ (ctv : Value) (s₁ : Shared), Stp B s s₁ → wpAny (md B) A (do
      let fd : FuncData := { name, qualname := qual, params, body, scope, globals := mainGlobals, closure := clos, closureTuple := ctv, code := ← functionCode env pos fl name qual params scope body, builtins := ← builtinsFor mainGlobals env.builtins, defaults := dV, kwdefaults := .none, annotations := none, pyModule := (← nsGet mainGlobals "__name__").getD .none, doc := ← match body with | .stmts b => (match docOf b with | some s => mkText s | none => pure .none) | .expr _ => pure .none }
      newObj (.type "function") (.func fd)) (fun v s' => ∃ a, v = .ref a ∧ MadeFn B k s s' a name qual params body scope clos dV pos) noE s₁ := by
    intro ctv s₁ p₁
    have hb₁ := hb.pres p₁.p
    refine wpAny_bind (wpMono (fcode hb₁ hc (CodeHd.keeps' hC p₁.p) (p₁.p.tab _ _ hT) hm hq) fun v s₂ ⟨c', e, p₂, g, n⟩ => ?_)
    subst e
    have hb₂ := hb₁.pres p₂.p
    obtain ⟨bm, ob, b1, b2, b3, b4, b5, b6⟩ := B.bmain
    refine wpAny_bind (wpAny_builtinsFor (B.g.keeps hb₂.keep) b1 b2 (hb₂.keep _ _ b3) b4 b5 b6 ?_)
    refine wpAny_bind (wpAny_nsGet (B.g.keeps hb₂.keep) ?_)
    have fin : ∀ (doc : Value) (s₃ : Shared), s₃.heap = s₂.heap → Rest s₂ s₃ → wpAny (md B) A (newObj (.type "function") (.func (mkFd name qual params body scope clos dV ((B.mg "__name__").getD .none) doc ctv c'))) (fun v s' => ∃ a, v = .ref a ∧ MadeFn B k s s' a name qual params body scope clos dV pos) noE s₃ := by
      intro doc s₃ e₃ r₃
      refine wpAny_newObj_type ⟨_, rfl, ⟨⟨(p₁.p.trans p₂.p).trans ?_, (p₁.r.trans p₂.r).trans ⟨r₃.1, r₃.2, r₃.3⟩⟩, ?_, _, doc, ctv, c', push_get rfl, ?_, ?_⟩⟩ (by size_fits)
      · rw [← e₃]; exact Pres.push _
      · rw [e₃]; exact (p₁.p.trans p₂.p).size
      · show GoodCode B (s₃.heap.push _) _ _ _
        rw [e₃]
        exact g.keep fun b o e _ => Heap.get?_push_of_some _ e
      · intro k' hk P' y
        have y' : CodeHd s₂.heap c' P' := by
          obtain ⟨_, _, o, _, _, _, eo, _⟩ := id g
          refine CodeHd.back eo ?_ y
          show (s₃.heap.push _).get? _ = _
          rw [e₃]; exact Heap.get?_push_of_some _ eo
        have := n k' hk P' y'
        show GoodTab B (s₃.heap.push _) _ _
        rw [e₃]
        exact (Pres.push (B := B) (F := none') _).tab _ _ this
    cases body with
    | expr e => exact wpAny_bind (wpAny_pure (fin .none s₂ rfl .refl))
    | stmts b =>
      dsimp only
      cases hdoc : docOf b with
      | none => exact wpAny_bind (wpAny_pure (fin .none s₂ rfl .refl))
      | some t => exact wpAny_bind (wpAny_mkText (fin _ _ rfl ⟨rfl, rfl, rfl⟩))
  cases clos with
  | nil =>
    simp only [List.isEmpty_nil, if_true]
    exact wpAny_bind (wpAny_pure (tail .none s .refl))
  | cons x r =>
    simp only [List.isEmpty_cons, Bool.false_eq_true, if_false]
    refine wpAny_bind (wpAny_newTextTuple (tail _ _ (.push _)) )
end Mine
open PySem PySem.W PyProof.Rows
set_option Elab.async false
set_option maxRecDepth 100000
set_option linter.unusedVariables false
set_option linter.unusedSimpArgs false
namespace Mine
open Builtin Builtin.ObjectAttr
variable {B : Bs} {C : Cx B} {ρ : Rho B} {μ : Mu B}
theorem slot_fn_setattr : Slot "function" "__setattr__" "object.__setattr__" := .of (owner := "object") (n := "__setattr__") (by rw [typeLookup_type, builtinLookup_eq_fast]; kernel_rfl) (by decide +kernel) (by decide +kernel) (by decide +kernel)
    (by first | exact .inl (by decide +kernel) | exact .inr (by decide +kernel)) (by rw [isSubtype_type]; kernel_rfl)
theorem slot_fn_getattr : Slot "function" "__getattribute__" "object.__getattribute__" := .of (owner := "object") (n := "__getattribute__") (by rw [typeLookup_type, builtinLookup_eq_fast]; kernel_rfl) (by decide +kernel) (by decide +kernel) (by decide +kernel)
    (by first | exact .inl (by decide +kernel) | exact .inr (by decide +kernel)) (by rw [isSubtype_type]; kernel_rfl)
theorem mro_fn : mroOf (.type "function") = pure [.type "function", .type "object"] := by kernel_rfl
theorem passes_fn (self : Value) : refuseLoop self "__setattr__" [.type "function", .type "object"] = pure () := by kernel_rfl
theorem inst_false {M : Model} {A : Around} {E : Value → Shared → Prop} {s : Shared} {a d : Addr} {o : Obj} {Q : Option Addr → Shared → Prop} (ho : s.heap.get? a = some o) (hc : o.cls = .type "function") (hd : o.dict = some d) (h : Q (some d) s) (cr : Bool) : wpAny M A (instanceDict a cr) Q E s := by
  unfold instanceDict
  refine wpAny_bind (wpAny_loadPart ho ?_)
  rw [hc, hd]
  exact wpAny_pure h
/-- a.name = v, a function without attributes so far -/
theorem set_fn_attr {A : Around} {E : Value → Shared → Prop} {s : Shared} {a : Addr} {o : Obj} {fd : FuncData} {name : Str} {v : Value} {Q : Unit → Shared → Prop} (ho : s.heap.get? a = some o) (hc : o.cls = .type "function") (hf : o.data = .func fd) (hd : o.dict = none)
    (hn : typeLookup (.type "function") name = pure none)
    (h : ∀ h' tk o', h'.get? a = some o' → o'.cls = .type "function" → o'.data = .func fd → o'.dict = some s.heap.objs.size → h'.Ns s.heap.objs.size (fun y => if y = name then some v else none) → (∀ b ob, b ≠ a → s.heap.get? b = some ob → h'.get? b = some ob) → s.heap.objs.size ≤ h'.objs.size → Q () { s with heap := h', toks := tk }) :
    wpAny (md B) A (setAttr (.ref a) name v) Q E s := by
  have hT : ∀ t, ({ s with toks := t } : Shared).TypeIs (.ref a) "function" := fun t => ⟨o, ho, hc⟩
  unfold setAttr
  refine wpAny_bind (wpAny_mkText (wpAny_bind ?_))
  refine wpAny_callSpecial?_slot (hT _) slot_fn_setattr (wpAny_call_entry slot_fn_setattr (hT _) PySem.F.store_object.entry ?_ (PySem.F.store_object.args _ _ _))
  rw [osa_eq, refuse_eq]
  refine wpAny_bind (wpAny_bind (wpAny_typeOf (hT _) (wpAny_bind ?_)))
  rw [mro_fn]
  refine wpAny_pure ?_
  rw [passes_fn]
  refine wpAny_pure (wpAny_bind (wpAny_typeOf (hT _) (wpAny_bind ?_)))
  rw [hn]
  refine wpAny_pure (wpAny_bind (wpAny_pure ?_))
  show wpAny _ _ (storeInOwnDict (.ref a) (.type "function") (.str name _) name v false) _ _ _
  unfold storeInOwnDict
  refine wpAny_bind (wpAny_pure ?_)
  rw [if_neg (by decide)]
  show wpAny _ _ (instanceDict a true >>= _) _ _ _
  unfold instanceDict
  obtain ⟨oc, od, odt, osl⟩ := o
  dsimp only at hc hf hd
  subst hc hf hd
  have hx₁ : (s.heap.push { cls := .type "dict", data := .dict #[] }).get? a = some ⟨.type "function", none, .func fd, osl⟩ := Heap.get?_push_of_some _ ho
  have hxs : a ≠ s.heap.objs.size := Nat.ne_of_lt (Heap.lt_size ho)
  refine wpAny_bind (wpAny_bind (wpAny_loadPart ho ?_))
  dsimp only
  rw [show typeHasDict (Value.type "function") = true from by decide +kernel]
  simp only [Bool.not_true, Bool.or_false, Bool.false_eq_true, if_false]
  refine wpAny_bind (wpAny_alloc' ?_)
  refine wpAny_bind (wpAny_update' hx₁ ?_)
  have hgd : ((s.heap.push { cls := .type "dict", data := .dict #[] }).update a fun o => { cls := o.cls, dict := some s.heap.objs.size, data := o.data, slots := o.slots }).get? s.heap.objs.size
      = some { cls := .type "dict", data := .dict #[] } :=
    (Heap.get?_update_ne _ _ _ _ hxs.symm).trans (Heap.get?_push_at rfl rfl)
  have hnd : ((s.heap.push { cls := .type "dict", data := .dict #[] }).update a fun o => { cls := o.cls, dict := some s.heap.objs.size, data := o.data, slots := o.slots }).Ns s.heap.objs.size (fun _ => none) :=
    ⟨_, #[], _, hgd, rfl, fun e he => absurd he (by simp), fun _ => rfl⟩
  refine wpAny_pure ?_
  show wpAny _ _ (storeInDict s.heap.objs.size (.str name _) name v) _ _ _
  unfold storeInDict newKeyGuard
  refine wpAny_bind (wpAny_pure (wpAny_bind (wpAny_nsSet1 (Heap.Ns1.of_empty hnd) fun h' hn' hs => ?_)))
  obtain ⟨oD, esD, epD, hoD, hdD, hcD⟩ := hn'.count (Within.cons name v Within.nil)
  refine wpAny_bind (wpAny_lookBehind hoD (by rw [hdD]; exact pastItsLine_dict (Nat.le_trans hcD (by rw [List.length_cons, List.length_nil, sizeLine_eq]; omega))) ?_)
  have hx' : h'.get? a = some ⟨.type "function", some s.heap.objs.size, .func fd, osl⟩ :=
    (hs.2 a hxs).trans (Heap.get?_update_self _ hx₁ (by have := (Heap.get?_some_iff.mp ho).2; first | rfl | exact this))
  refine wpAny_pure ⟨.none, rfl, wpAny_pure ?_⟩
  refine h h' _ _ hx' rfl rfl rfl hn'.ns (fun b ob hb e => ?_) ?_
  · exact (hs.2 b (Nat.ne_of_lt (Heap.lt_size e))).trans ((Heap.get?_update_ne _ _ _ _ hb).trans (Heap.get?_push_of_some _ e))
  · have := hs.1
    rw [this]
    show _ ≤ ((s.heap.push _).update a _).objs.size
    rw [Heap.size_update, Heap.size_push]; omega
end Mine
open PySem PySem.W PyProof.Rows
set_option Elab.async false
set_option maxRecDepth 100000
set_option linter.unusedVariables false
set_option linter.unusedSimpArgs false
namespace Mine
open Builtin Builtin.ObjectAttr
variable {B : Bs} {C : Cx B} {ρ : Rho B} {μ : Mu B}
theorem fn_noGetattr : typeLookup (.type "function") "__getattr__" = pure none := by rw [typeLookup_type, builtinLookup_eq_fast]; kernel_rfl
theorem fn_noSpan : typeLookup (.type "function") "span" = pure none := by rw [typeLookup_type, builtinLookup_eq_fast]; kernel_rfl
theorem fn_noSearch : typeLookup (.type "function") "search" = pure none := by rw [typeLookup_type, builtinLookup_eq_fast]; kernel_rfl
theorem fn_noBool : typeLookup (.type "function") "__bool__" = pure none := by rw [typeLookup_type, builtinLookup_eq_fast]; kernel_rfl
theorem fn_noLen : typeLookup (.type "function") "__len__" = pure none := by rw [typeLookup_type, builtinLookup_eq_fast]; kernel_rfl
theorem canon_obj_ga : (Manifest.canonical "object.__getattribute__" != "object.__getattribute__") = false := by decide +kernel
theorem ga_run {A : Around} {E : Value → Shared → Prop} {s : Shared} {a d w : Addr} {o : Obj} {m : Str → Option Value} {name : Str} {tk : Tok} {Q : Fin → Shared → Prop} (ho : s.heap.get? a = some o) (hc : o.cls = .type "function") {fd : FuncData} (hf : o.data = .func fd) (hd : o.dict = some d) (hm : s.heap.Ns d m) (hw : m name = some (.ref w))
    (hn : typeLookup (.type "function") name = pure none) (h : Q (.done (.ret (.ref w))) s) : wpAny (md B) A (Builtin.«object.__getattribute__» ⟨[.ref a, .str name tk], []⟩) Q E s := by
  have hT : s.TypeIs (.ref a) "function" := ⟨o, ho, hc⟩
  obtain ⟨k, e, hk⟩ : ∃ k : Value → Found → Sem Fin, Builtin.«object.__getattribute__» ⟨[.ref a, .str name tk], []⟩ = (typeOf (.ref a) >>= fun tp => find (.ref a) tp name >>= fun f => k tp f) ∧ ∀ tp v, k tp (.value v) = ret v := ⟨_, rfl, fun _ _ => rfl⟩
  rw [e]
  refine wpAny_bind (wpAny_typeOf hT (wpAny_bind ?_))
  unfold find
  rw [hn]
  refine wpAny_bind (wpAny_pure (wpAny_bind (wpAny_pure (wpAny_bind (wpAny_pure ?_)))))
  show wpAny _ _ (inOwnDict name (.ref a) >>= _) _ _ _
  refine wpAny_bind ?_
  show wpAny _ _ (ownDict a >>= fun d => inDict name d) _ _ _
  refine wpAny_bind (wpAny_bind (wpAny_loadPart ho ?_))
  rw [hf]
  refine inst_false ho hc hd ?_ false
  refine wpAny_nsGet hm ?_
  rw [hw]
  refine wpAny_bind (wpAny_rule (wpAny_pure ?_))
  first | exact wpAny_pure h | (show wpAny _ _ (k _ (.value _)) _ _ _; rw [hk]; exact wpAny_pure h)
theorem get_fn_attr {A : Around} {E : Value → Shared → Prop} {s : Shared} {a d w : Addr} {o : Obj} {m : Str → Option Value} {name : Str} {Q : Value → Shared → Prop} (ho : s.heap.get? a = some o) (hc : o.cls = .type "function") {fd : FuncData} (hf : o.data = .func fd) (hd : o.dict = some d) (hm : s.heap.Ns d m) (hw : m name = some (.ref w))
    (hn : typeLookup (.type "function") name = pure none) (h : ∀ tk, Q (.ref w) { s with toks := tk }) : wpAny (md B) A (getAttr (.ref a) name) Q E s := by
  have hT : ∀ t, ({ s with toks := t } : Shared).TypeIs (.ref a) "function" := fun t => ⟨o, ho, hc⟩
  unfold getAttr
  refine wpAny_bind (wpAny_mkText ?_)
  unfold getAttrBy
  refine wpAny_holding (wpAny_bind (wpAny_typeOf (hT _) (wpAny_bind ?_)))
  rw [slot_fn_getattr.lookup]
  refine wpAny_pure ?_
  dsimp only
  rw [if_neg (by decide)]
  unfold getAttrByItsOwn
  refine wpAny_bind (wpAny_pure (wpAny_bind (wpAny_attempt (wpAny_holding ?_))))
  show wpAny _ _ (boundAndCalled _ _ _) _ _ _
  unfold boundAndCalled
  rw [slot_fn_getattr.bind]
  refine wpAny_bind (wpAny_pure ?_)
  refine wpAny_call_entry slot_fn_getattr (hT _) F.entry_object_getattribute ?_ (by unfold argsOk; kernel_rfl)
  refine ga_run (s := { s with toks := _ }) ho hc hf hd hm hw hn ⟨_, rfl, ?_⟩
  exact wpAny_pure (h _)
theorem get_fn_meth {A : Around} {E : Value → Shared → Prop} {s : Shared} {a d w : Addr} {o : Obj} {m : Str → Option Value} {name : Str} {pl : Sem Bool} {Q : Value × List Value → Shared → Prop} (ho : s.heap.get? a = some o) (hc : o.cls = .type "function") {fd : FuncData} (hf : o.data = .func fd) (hd : o.dict = some d) (hm : s.heap.Ns d m) (hw : m name = some (.ref w))
    (hn : typeLookup (.type "function") name = pure none) (h : ∀ tk, Q (.ref w, []) { s with toks := tk }) : wpAny (md B) A (getMethod (.ref a) name pl) Q E s := by
  have hT : s.TypeIs (.ref a) "function" := ⟨o, ho, hc⟩
  unfold getMethod
  dsimp only
  refine wpAny_bind (wpAny_specialOf hT slot_fn_getattr.lookup ?_)
  dsimp only
  rw [if_neg (by rw [canon_obj_ga]; decide)]
  refine wpAny_bind (wpAny_specialOf hT fn_noGetattr ?_)
  rw [if_neg (by decide)]
  refine wpAny_bind (wpAny_specialOf hT hn ?_)
  exact wpAny_bind (get_fn_attr ho hc hf hd hm hw hn fun tk => wpAny_pure (h tk))
theorem truthy_fn {A : Around} {E : Value → Shared → Prop} {s : Shared} {a : Addr} {o : Obj} {Q : Bool → Shared → Prop} (ho : s.heap.get? a = some o) (hc : o.cls = .type "function") (h : Q true s) : wpAny (md B) A (truthy (.ref a)) Q E s := by
  have hT : s.TypeIs (.ref a) "function" := ⟨o, ho, hc⟩
  unfold truthy
  dsimp only
  refine wpAny_bind ?_
  unfold callSpecial?
  refine wpAny_bind (wpAny_specialOf hT fn_noBool (wpAny_pure ?_))
  refine wpAny_bind (wpAny_specialOf hT fn_noLen ?_)
  exact wpAny_pure h
end Mine
open PySem PySem.W PyProof.Rows
set_option Elab.async false
set_option maxRecDepth 100000
set_option linter.unusedVariables false
set_option linter.unusedSimpArgs false
namespace Mine
variable {B : Bs} {C : Cx B} {ρ : Rho B} {μ : Mu B}
theorem GoodCode.pres {F : Addr → Prop} {h h' : Heap} {l k : Nat} {c : Addr} (x : GoodCode B h l k c) (p : Pres B F h h') : GoodCode B h' l k c := by
  obtain ⟨q, hq, o, vs, t, P, e, hc, hd, hv, hh, hm⟩ := x
  refine ⟨q, hq, o, vs, t, P, p.obj _ _ e (.inr ⟨hc, _, hd⟩) (.inl (var_fields hc hd)), hc, hd, hv, ?_, hm⟩
  obtain ⟨o', vs', file, tf, flags, tg, inF, text, tt, e', hc', hd', r⟩ := hh
  exact ⟨o', vs', file, tf, flags, tg, inF, text, tt, p.obj _ _ e' (.inr ⟨hc', _, hd'⟩) (.inl (var_fields hc' hd')), hc', hd', r⟩
theorem GoodCode.tabs {F : Addr → Prop} {h h' : Heap} {l k kk : Nat} {c : Addr} (x : GoodCode B h l k c) (y : ∀ k', kk = k' + 1 → ∀ P', CodeHd h c P' → GoodTab B h k' P') (p : Pres B F h h') : ∀ k', kk = k' + 1 → ∀ P', CodeHd h' c P' → GoodTab B h' k' P' := fun k' hk P' z => by
  obtain ⟨q, hq, o, vs, t, P, e, hc, hd, _⟩ := id x
  exact p.tab _ _ (y k' hk P' (CodeHd.back e (p.obj _ _ e (.inr ⟨hc, _, hd⟩) (.inl (var_fields hc hd))) z))
/-- the defaults of a def: none, or one int -/
noncomputable def Dv (F : Addr → Prop) (h : Heap) (dV : Value) : Option Int → Prop
  | none => dV = .none
  | some i => ∃ t tk n, dV = .ref t ∧ ¬ F t ∧ h.get? t = some { cls := .type "tuple", data := .seq #[.int i tk] n }
theorem Dv.pres {F : Addr → Prop} {h h' : Heap} {dV : Value} {d : Option Int} (x : Dv F h dV d) (p : Pres B F h h') : Dv F h' dV d := by
  cases d with
  | none => exact x
  | some i => obtain ⟨t, tk, n, e, hF, g⟩ := x; exact ⟨t, tk, n, e, hF, p.obj _ _ g (.inl hF) (.inl rfl)⟩
theorem Dv.weak {F F' : Addr → Prop} {h : Heap} {dV : Value} {d : Option Int} (x : Dv F h dV d) (hw : ∀ b, F' b → F b ∨ h.get? b = none) : Dv F' h dV d := by
  cases d with
  | none => exact x
  | some i => obtain ⟨t, tk, n, e, hF, g⟩ := x; exact ⟨t, tk, n, e, fun q => (hw t q).elim hF fun z => (by rw [z] at g; cases g), g⟩
/-- a function as it was made -/
inductive PMade (k : Nat) (name qual : Str) (params : Arguments) (body : FuncBody) (scope : Scope) (clos : List (Str × Addr)) (d : Option Int) (pos : Pos) (B : Bs) (F : Addr → Prop) (h : Heap) (v : Value) : Prop
  | mk (a : Addr) (pm doc ctv : Value) (c' : Addr) (dV : Value) (e : v = .ref a) (hF : ¬ F a) (g : h.get? a = some { cls := .type "function", data := .func (mkFd name qual params body scope clos dV pm doc ctv c') }) (gc : GoodCode B h pos.line pos.col c')
    (gt : ∀ k', k = k' + 1 → ∀ P', CodeHd h c' P' → GoodTab B h k' P') (dv : Dv F h dV d)
noncomputable def pmade (k : Nat) (name qual : Str) (params : Arguments) (body : FuncBody) (scope : Scope) (clos : List (Str × Addr)) (d : Option Int) (pos : Pos) : Pd B where
  p F h v := PMade k name qual params body scope clos d pos B F h v
  mono := by rintro _ _ _ _ ⟨a, pm, doc, ctv, c', dV, e, hF, g, gc, gt, dv⟩ p; exact ⟨a, pm, doc, ctv, c', dV, e, hF, p.obj _ _ g (.inl hF) (.inl rfl), gc.pres p, gc.tabs gt p, dv.pres p⟩
  weak := by rintro _ _ _ _ ⟨a, pm, doc, ctv, c', dV, e, hF, g, gc, gt, dv⟩ hw; exact ⟨a, pm, doc, ctv, c', dV, e, fun q => (hw a q).elim hF fun z => (by rw [z] at g; cases g), g, gc, gt, dv.weak hw⟩
/-- the code object of the frame's text, and its table -/
noncomputable def Cod (C : Cx B) (k : Nat) : Prop := ∃ c P, C.env.code = .ref c ∧ CodeHd C.h₀ c P ∧ GoodTab B C.h₀ k P ∧ B.mt P
/-- each free name of an inner text is a cell of the frame -/
noncomputable def capt (C : Cx B) (names : List (Str × NameKind)) : Bool := names.all fun p => p.2 != .free || (C.stor p.1 && C.env.kindOf p.1 == some .cell)
theorem capt_some {F : Addr → Prop} {h : Heap} {names : List (Str × NameKind)} (f : Frm C F h ρ μ) (hc : capt C names = true) : ∀ n, (n, NameKind.free) ∈ names → (C.env.cells.lookup n).isSome = true := fun n hn => by
  have h1 := List.all_eq_true.mp hc _ hn
  simp only [bne_self_eq_false, Bool.false_or, Bool.and_eq_true, beq_iff_eq] at h1
  obtain ⟨c, v, hl, _⟩ := f.own n h1.1 h1.2
  rw [hl]; rfl
theorem made_of {F : Addr → Prop} {s s' : Shared} {k : Nat} {a : Addr} {name qual : Str} {params : Arguments} {body : FuncBody} {scope : Scope} {clos : List (Str × Addr)} {dV : Value} {d : Option Int} {pos : Pos} (hlt : ∀ b, F b → b < s.heap.objs.size)
    (m : MadeFn B k s s' a name qual params body scope clos dV pos) (dv : Dv F s.heap dV d) : (pmade (B := B) k name qual params body scope clos d pos).p F s'.heap (.ref a) := by
  obtain ⟨pm, doc, ctv, c', g, gc, gt⟩ := m.obj
  exact ⟨a, pm, doc, ctv, c', dV, rfl, fun q => absurd (hlt a q) (Nat.not_lt.mpr m.new), g, gc, gt, dv.pres m.stp.p.any⟩
theorem clOf_length {cells : List (Str × Addr)} : ∀ (names : List (Str × NameKind)) (acc : List (Str × Addr)), (clOf cells names acc).length ≤ names.length + acc.length
  | [], acc => by simp [clOf]
  | (n, k) :: r, acc => by
    unfold clOf
    split
    · have := clOf_length (cells := cells) r ((n, (cells.lookup n).getD 0) :: acc); simp only [List.length_cons] at *; lia
    · have := clOf_length (cells := cells) r acc; simp only [List.length_cons] at *; lia
theorem Ev.lam {args : Arguments} {body : Expr} {scope : Scope} {pos : Pos} {k : Nat} (hc : Cod C k) (hq : B.qual pos.line pos.col = some (C.env.qual ++ "<lambda>")) (hca : capt C scope.names = true := by rfl) (hz : scope.names.length ≤ 100 := by decide)
    (hd : defaultsOf args C.env = ([], []) := by rfl) (hkw : args.kwonlyargs = [] := by rfl) : Ev C ρ μ (.Lambda args body scope pos) (pmade k "<lambda>" (C.env.qual ++ "<lambda>") args (.expr body) scope (clOf C.env.cells scope.names []) Option.none pos) := fun F s f => by
  have e : eval (.Lambda args body scope pos) C.env = (do
    let (d, kd) := defaultsOf args C.env
    let dv ← evalAll d
    let kdv ← holding dv (evalAllOpt kd)
    makeFunction "<lambda>" (C.env.qual ++ "<lambda>") args (.expr body) scope C.env dv kdv [] pos pos.line) := by rfl
  rw [e, hd]
  refine wpAny_bind (wpAny_pure (wpAny_bind (wpAny_pure ?_)))
  rw [makeFunction_eq]
  simp only [List.zip_nil_right, List.filterMap_nil, List.isEmpty_nil, if_true, pure_bind]
  obtain ⟨c, P, h1, h2, h3, h4⟩ := hc
  refine wpMono (mkTail f.h f.glob (closureFor_eq (capt_some f hca)) h1 (CodeHd.keeps' h2 f.pres) (f.pres.tab _ _ h3) h4 hq (Nat.le_trans (clOf_length _ _) (Nat.le_trans (by simpa using hz) (by decide)))) fun v s' ⟨a, ev, m⟩ => ?_
  subst ev
  exact ⟨m.stp, made_of f.lt m rfl⟩
/-- an inner def, with one int as its default -/
theorem Ex1.def0 {name bind : Str} {a : List Arg} {body : List Stmt} {scope : Scope} {pos : Pos} {k : Nat} {i : Int} {n1 : Nat} {p1 : Pos} (hc : Cod C k) (hb : Sto C bind) (qual : Str) (hqn : qualnameIn C.env name bind = qual := by rfl) (hq : B.qual pos.line pos.col = some qual) (hca : capt C scope.names = true := by rfl) (hz : scope.names.length ≤ 100 := by decide)
    (han : annotationsOf a C.env = [] := by rfl) :
    Ex1 C ρ μ (.FunctionDef name { posonlyargs := [], args := a, vararg := none, kwonlyargs := [], kw_defaults := [], kwarg := none, defaults := [.Constant (.int i) n1 p1] } body [] none [] scope none bind pos)
      (.next (upd ρ bind (pmade k name qual { posonlyargs := [], args := a, vararg := none, kwonlyargs := [], kw_defaults := [], kwarg := none, defaults := [.Constant (.int i) n1 p1] } (.stmts body) scope (clOf C.env.cells scope.names []) (some i) pos)) μ) := fun F s f => by
  rw [PySem.arm_exec_FunctionDef]
  unfold defStmt
  refine wpAny_bind (wpAny_pure (wpAny_bind (wpAny_standAt (wpAny_bind (wpAny_holding ?_)))))
  have K : ∀ (s₁ : Shared) (tk : Tok), Stp B s s₁ → wpAny (md B) C.A (makeFunction name (qualnameIn C.env name bind) { posonlyargs := [], args := a, vararg := none, kwonlyargs := [], kw_defaults := [], kwarg := none, defaults := [.Constant (.int i) n1 p1] } (.stmts body) scope C.env [.int i tk] [] [] pos pos.line)
      (fun f' s₃ => wpAny (md B) C.A (do standAt pos; bindName C.env bind f'; pure Flow.next) (fun f s' => Rest s s' ∧ OutOk C F μ s.heap (Out.next (upd ρ bind (pmade k name qual { posonlyargs := [], args := a, vararg := none, kwonlyargs := [], kw_defaults := [], kwarg := none, defaults := [.Constant (.int i) n1 p1] } (.stmts body) scope (clOf C.env.cells scope.names []) (some i) pos)) μ) f s'.heap) noE s₃) noE s₁ := by
    intro s₁ tk p₁
    rw [makeFunction_eq]
    simp only [List.zip_nil_right, List.filterMap_nil, List.isEmpty_nil, List.isEmpty_cons, Bool.false_eq_true, if_false, if_true, pure_bind]
    refine wpAny_bind (wpAny_newTextTuple ?_)
    obtain ⟨c, P, h1, h2, h3, h4⟩ := hc
    have p₂ : Stp B s { s₁ with heap := s₁.heap.push { cls := .type "tuple", data := .seq [Value.int i tk].toArray } } := p₁.trans (.push _)
    have f₂ := f.step p₂.p
    refine wpMono (mkTail (dV := .ref s₁.heap.objs.size) f₂.h f.glob (closureFor_eq (capt_some f hca)) h1 (CodeHd.keeps' h2 f₂.pres) (f₂.pres.tab _ _ h3) h4 (hqn ▸ hq) (Nat.le_trans (clOf_length _ _) (Nat.le_trans (by simpa using hz) (by decide)))) fun v s' ⟨a', ev, m⟩ => ?_
    subst ev
    rw [hqn] at m
    have dv : Dv F (s₁.heap.push { cls := .type "tuple", data := .seq [Value.int i tk].toArray }) (.ref s₁.heap.objs.size) (some i) := ⟨_, tk, 0, rfl, fun q => absurd ((f.step p₁.p).lt _ q) (Nat.lt_irrefl _), push_get rfl⟩
    have p₃ := p₂.trans m.stp
    refine wpAny_bind (wpAny_standAt (wpAny_bind (wpAny_bindName (wpMono (st_any (f.step p₃.p) (made_of f₂.lt m dv) hb) fun _ s₄ ⟨r₄, h₄, p₄⟩ => wpAny_pure ⟨p₃.r.trans r₄, p₃.p.any.trans p₄, F, .same h₄⟩))))
  refine wpAny_bind ?_
  refine wpAny_bind (wpAny_Constant_int (wpAny_bind (wpAny_holding (wpAny_pure (wpAny_pure ?_)))))
  refine wpAny_bind (wpAny_holding (wpAny_pure (wpAny_holding ?_)))
  dsimp only
  rw [show annotationsOf (a ++ [] ++ Option.none.toList ++ [] ++ Option.none.toList) C.env = [] from by simpa using han]
  refine wpAny_bind (wpAny_pure ?_)
  refine wpMono (K _ _ .toks) fun f' s' h => ?_
  exact wpAny_bind (wpAny_pure h)
end Mine
open PySem PySem.W PyProof.Rows
set_option Elab.async false
set_option maxRecDepth 100000
set_option linter.unusedVariables false
set_option linter.unusedSimpArgs false
namespace Mine
variable {B : Bs} {C : Cx B} {ρ : Rho B} {μ : Mu B}
theorem callWith_fn {A : Around} {pos : Pos} {a : Addr} {first : List Value} {args : List (Bool × Sem Value)} {Q : Value → Shared → Prop} {E : Value → Shared → Prop} {s : Shared} (hp : args.any (·.1) = false)
    (h : wpAny (md B) A (spliced args) (fun vs s₁ => (∃ o fd, s₁.heap.get? a = some o ∧ o.data = .func fd) ∧ wpAny (md B) A (PySem.call (.ref a) (first ++ vs) []) Q E s₁) E s) : wpAny (md B) A (callWith pos (.ref a) first args []) Q E s := by
  unfold callWith
  refine wpAny_bind (wpAny_holding (evalArgs_any hp (wpAny_mono h (fun vs s₁ h₁ => wpAny_bind (wpAny_standAt ?_)) fun _ _ x => x)))
  obtain ⟨o, fd, ho, hd⟩ := h₁.1
  have tail : ∀ {t : Sem Value}, wpAny (md B) A t Q E s₁ → wpAny (md B) A (t >>= fun r => holding [r] point >>= fun _ => pure r) Q E s₁ :=
    fun ht => wpAny_bind (wpAny_mono ht (fun r s₂ hr => wpAny_bind (wpAny_holding (wpAny_point (wpAny_pure hr)))) fun _ _ x => x)
  simp only [hp, List.any_nil, Bool.or_false]
  refine wpAny_bind (m := keeperOf (.ref a)) ?_
  unfold keeperOf
  refine wpAny_bind (wpAny_load ho ?_)
  rw [hd]
  refine wpAny_pure ?_
  dsimp only
  split
  · exact tail h₁.2
  · exact tail (by unfold callMarked; exact PySem.Calls.wpAny_keep h₁.2)
/-- a function value that may be called so, now and later -/
noncomputable def pcall (n : Nat) (Ps : List (Pd B)) (R : Pd B) : Pd B where
  p F h v := (∃ a o fd, v = .ref a ∧ ¬ F a ∧ h.get? a = some o ∧ o.cls = .type "function" ∧ o.data = .func fd) ∧ ∀ F' A s vs, Pres B F h s.heap → Room n A → A.handled = none → Stk B A s.heap → Base B s.heap → (∀ b, F' b → b < s.heap.objs.size) → all2 F' s.heap Ps vs →
    wpAny (md B) A (PySem.call v vs []) (fun r s' => Stp B s s' ∧ R.p F' s'.heap r) noE s
  mono := by
    rintro F h h' v ⟨⟨a, o, fd, e, hF, g, hc, hd⟩, k⟩ p
    refine ⟨⟨a, o, fd, e, hF, p.obj _ _ g (.inl hF) (.inl (var_func hd)), hc, hd⟩, ?_⟩
    intro F' A s vs q
    exact k F' A s vs (p.trans q)
  weak := by
    rintro F F' h v ⟨⟨a, o, fd, e, hF, g, hc, hd⟩, k⟩ hw
    refine ⟨⟨a, o, fd, e, fun q => (hw a q).elim hF fun z => (by rw [z] at g; cases g), g, hc, hd⟩, ?_⟩
    intro F₁ A s vs q
    exact k F₁ A s vs ⟨fun b o e f t => q.obj b o e (f.imp (fun n r => (hw b r).elim n fun z => by rw [z] at e; cases e) id) t, fun b o e f t => q.frm b o e (fun r => (hw b r).elim f fun z => by rw [z] at e; cases e) t, q.tab, q.size⟩
noncomputable def pand (P Q : Pd B) : Pd B := ⟨fun F h v => P.p F h v ∧ Q.p F h v, fun x p => ⟨P.mono x.1 p, Q.mono x.2 p⟩, fun x w => ⟨P.weak x.1 w, Q.weak x.2 w⟩⟩
/-- a function object with one attribute -/
inductive PAttr (name : Str) (P : Pd B) (F : Addr → Prop) (h : Heap) (v : Value) : Prop
  | mk (a : Addr) (o : Obj) (fd : FuncData) (d : Addr) (m : Str → Option Value) (w : Value) (e : v = .ref a) (hF : ¬ F a) (g : h.get? a = some o) (hc : o.cls = .type "function") (hd : o.data = .func fd) (hdd : o.dict = some d) (hFd : ¬ F d) (hn : h.Ns d m) (hm : m name = some w) (hp : P.p F h w)
noncomputable def pattr (name : Str) (P : Pd B) : Pd B where
  p F h v := PAttr name P F h v
  mono := by rintro _ _ _ _ ⟨a, o, fd, d, m, w, e, hF, g, hc, hd, hdd, hFd, hns, hm, hp⟩ p; exact ⟨a, o, fd, d, m, w, e, hF, p.obj _ _ g (.inl hF) (.inl (var_func hd)), hc, hd, hdd, hFd, ns_pres hns hFd p, hm, P.mono hp p⟩
  weak := by rintro _ _ _ _ ⟨a, o, fd, d, m, w, e, hF, g, hc, hd, hdd, hFd, hn, hm, hp⟩ hw; exact ⟨a, o, fd, d, m, w, e, fun q => (hw a q).elim hF fun z => (by rw [z] at g; cases g), g, hc, hd, hdd, fun q => (hw d q).elim hFd fun z => (by obtain ⟨o', es, ep, e', _⟩ := hn; rw [z] at e'; cases e'), hn, hm, P.weak hp hw⟩
/-- o.name(args), o a function with that attribute -/
theorem Ev.callA {o : Expr} {name : Str} {apos pos : Pos} {args : List Expr} {Ps : List (Pd B)} {P Q : Pd B} {n : Nat} (ho : Ev C ρ μ o (pattr name Q)) (hQ : ∀ F h v, Q.p F h v → (pcall (B := B) n Ps P).p F h v) (ha : EvL C ρ μ args Ps) (hr : Room n C.A) (hh : C.A.handled = Option.none)
    (hn : typeLookup (.type "function") name = pure Option.none)
    (hbase : attributeBase o name C.env (eval o C.env) = eval o C.env := by rfl)
    (hfew : ((backTo pos (starEach args C.env)).all (fun x => !x.1) && (backToKw pos (keywordEach [] C.env)).all (fun x => x.1.isSome) && decide (args.length + ([] : List Keyword).length + (if ([] : List Keyword).isEmpty then 0 else 1) < 30)) = true := by rfl)
    (hline : (apos.endLine == pos.line) = true := by rfl) (hp : (backTo pos (starEach args C.env)).any (·.1) = false := by rfl) : Ev C ρ μ (.Call (.Attribute o name apos) args [] pos) P := fun F s f => by
  rw [PySem.arm_eval_Call, hbase]
  refine wpAny_bind (wpMono (ho F s f) fun ov s₁ ⟨p₁, h₁⟩ => ?_)
  obtain ⟨a, ob, fd, d, m, w, rfl, hF, g, hc, hd, hdd, hFd, hns, hm, hpw⟩ := h₁
  refine wpAny_bind (wpAny_standAt ?_)
  have hform : methodCallForm (args.length + ([] : List Keyword).length) (backTo pos (starEach args C.env)) (backToKw pos (keywordEach [] C.env)) = true := hfew
  have hpos : methodCallPos true o C.env apos pos = pure pos := by unfold methodCallPos; simp [hline]
  obtain ⟨⟨a', o', fd', rfl, hF', ho', hc', hd'⟩, k⟩ := hQ _ _ _ hpw
  unfold methodCall
  rw [hform]
  refine wpAny_bind (wpAny_holding (get_fn_meth g hc hd hdd hns hm hn fun tk => ?_))
  refine wpAny_bind (wpAny_of_eq hpos ?_)
  have p₁' : Stp B s { s₁ with toks := tk } := p₁.trans .toks
  refine callWith_fn hp (wpMono (ha F _ pos (f.step p₁'.p)) fun vs s₂ ⟨p₂, h₂⟩ => ?_)
  have f₂ := (f.step p₁'.p).step p₂.p
  exact ⟨⟨o', fd', p₂.p.obj _ _ ho' (.inl fun q => q) (.inl (var_func hd')), hd'⟩, wpMono (k F C.A s₂ vs p₂.p.any hr hh f₂.stack f₂.h f₂.lt h₂) fun r s₃ ⟨p₃, h₃⟩ => ⟨(p₁'.trans p₂).trans p₃, h₃⟩⟩
/-- a function is true -/
theorem truthy_attr {F : Addr → Prop} {A : Around} {s : Shared} {v : Value} {name : Str} {P : Pd B} (h : (pattr (B := B) name P).p F s.heap v) : wpAny (md B) A (truthy v) (fun b s' => Stp B s s' ∧ b = true) noE s := by
  obtain ⟨a, o, fd, d, m, w, rfl, hF, g, hc, _⟩ := h
  exact truthy_fn g hc ⟨.refl, rfl⟩
end Mine
open PySem PySem.W PyProof.Rows
set_option Elab.async false
set_option maxRecDepth 100000
set_option linter.unusedVariables false
set_option linter.unusedSimpArgs false
namespace Mine
variable {B : Bs} {C : Cx B} {ρ : Rho B} {μ : Mu B}
/-- the body of a function: what it gives back -/
noncomputable def Bod (C : Cx B) (ρ : Rho B) : FuncBody → Pd B → Prop
  | .stmts sts, P => Ex C ρ (fun _ => none) sts (.ret P)
  | .expr e, P => Ev C ρ (fun _ => none) e P
theorem GoodCode.rec {h : Heap} {l k : Nat} {c : Addr} {q : Str} (x : GoodCode B h l k c) (hq : B.qual l k = some q) : h.CodeRec (.ref c) q := by
  obtain ⟨q', hq', o, vs, t, P, e, hc, hd, hv, _⟩ := x
  rw [hq] at hq'; cases hq'
  exact ⟨c, o, vs, t, rfl, e, hd, hv⟩
theorem clo_call {A : Around} {F : Addr → Prop} {s : Shared} {fd : FuncData} {a : Addr} {o : Obj} {ρ₀ : Rho B} {xs : List Str} {vs vs' : List Value} {Ps : List (Pd B)} {P : Pd B} {n : Nat}
    (ho : s.heap.get? a = some o) (hd : o.data = .func fd) (hcd : s.heap.CodeRec fd.code fd.qualname) (hr : Room (n + 1) A) (hst : Stk B A s.heap) (hb : Base B s.heap) (hlt : ∀ b, F b → b < s.heap.objs.size)
    (hbind : ∀ Q : List (Str × Value) → Shared → Prop, Q (xs.zip vs') s → wpAny (md B) A.in1 (bindArgs fd ⟨vs, []⟩) Q noE s)
    (hk : fd.scope.kind = .function) (hg : fd.globals = mainGlobals) (hbl : fd.builtins = builtinsNs) (hco : fd.scope.isCoroutine = false) (hgen : fd.scope.isGenerator = false)
    (hlen : xs.length = vs'.length) (hvs : all2 F s.heap Ps vs') (hxs : ∀ x ∈ xs, fd.scope.names.lookup x = some .local ∨ fd.scope.names.lookup x = some .cell)
    (hcl : ∀ p ∈ fd.closure, p.2 < s.heap.objs.size) (hap : fd.closure.Pairwise fun x y => x.2 ≠ y.2)
    (hρ : ∀ x P, ρ₀ x = some P → fd.scope.names.lookup x = some .free ∧ ∃ c v, (cellsFrom (s.heap.objs.size + 1) fd.scope.names fd.closure).lookup x = some c ∧ s.heap.IsCell c (some v) ∧ P.p F s.heap v)
    (hex : Bod (mkC B A s.heap fd a) (updL ρ₀ xs Ps) fd.body P) : wpAny (md B) A (PySem.call (.ref a) vs []) (fun r s' => Stp B s s' ∧ P.p F s'.heap r) noE s := by
  have hroom : A.depth < recursionLimit := by have := hr.depth; show A.depth < 1000; lia
  cases hbody : fd.body with
  | stmts body =>
    rw [hbody] at hex
    refine wpAny_call (codeAny_call_function hroom ho hd hco hgen hbody hcd ?_)
    refine wpAny_mono (hbind _ ?_) (fun _ _ x => x) fun _ _ x => x.elim
    refine wpMono (enter (A := A) (ρ₀ := ρ₀) hb hst hlt hk hg hbl hlen hvs hxs hcl hap hρ) fun env s₂ h₂ => ?_
    obtain ⟨rfl, r₂, F', hF, hF', f₂⟩ := h₂
    refine ⟨f₂.h.nolimit, codeAny_func (wpMono (hex F' s₂ f₂) fun f s₃ ⟨r₃, _, h₃⟩ => ?_)⟩
    cases f with
    | ret v => exact ⟨⟨h₃.1, r₂.trans r₃⟩, P.weak h₃.2 fun b q => .inl ⟨hF b q, hlt b q⟩⟩
    | next => exact h₃.elim
    | brk => exact h₃.elim
    | cont => exact h₃.elim
  | expr body =>
    rw [hbody] at hex
    refine wpAny_call (kla_callFunE hroom ho hd hco hgen hbody hcd ?_)
    refine wpAny_mono (hbind _ ?_) (fun _ _ x => x) fun _ _ x => x.elim
    refine wpMono (enter (A := A) (ρ₀ := ρ₀) hb hst hlt hk hg hbl hlen hvs hxs hcl hap hρ) fun env s₂ h₂ => ?_
    obtain ⟨rfl, r₂, F', hF, hF', f₂⟩ := h₂
    refine ⟨f₂.h.nolimit, kla_codeExpr (wpMono (hex F' s₂ f₂) fun v s₃ ⟨p₃, h₃⟩ => ?_)⟩
    exact ⟨⟨f₂.pres.trans p₃.p, r₂.trans p₃.r⟩, P.weak h₃ fun b q => .inl (hF b q)⟩
/-- a value that leans on nothing in the heap -/
noncomputable def Lasts (P : Pd B) : Prop := ∀ F h v, P.p F h v → ∀ F' h', P.p F' h' v
theorem lasts_int {i : Int} : Lasts (pint (B := B) i) := fun F h v x F' h' => by obtain ⟨t, rfl⟩ := int_of x; exact of_int
/-- what a made function does when it is called, in a heap where the frame that made it is gone -/
theorem Frm.made {F : Addr → Prop} {h : Heap} {ρ₀ : Rho B} {k : Nat} {v : Value} {name qual : Str} {params : Arguments} {body : FuncBody} {scope : Scope} {d : Option Int} {pos : Pos} {xs : List Str} {Ps Ps' : List (Pd B)} {P : Pd B} {n : Nat}
    (f : Frm C F h ρ μ) (hv : (pmade (B := B) k name qual params body scope (clOf C.env.cells scope.names []) d pos).p F h v) (hq : B.qual pos.line pos.col = some qual)
    (hca : capt C scope.names = true) (hnd : (scope.names.map (·.1)).Nodup) (hk : scope.kind = .function) (hco : scope.isCoroutine = false) (hgen : scope.isGenerator = false)
    (hρ : ∀ x P, ρ₀ x = some P → scope.names.lookup x = some .free ∧ ρ x = some P ∧ Lasts P)
    (hxs : ∀ x ∈ xs, scope.names.lookup x = some .local ∨ scope.names.lookup x = some .cell) (hlen : xs.length = Ps'.length)
    (hbind : ∀ F s A dV pm doc ctv c' vs, (∀ b, F b → b < s.heap.objs.size) → Dv (fun _ => False) s.heap dV d → all2 F s.heap Ps vs → ∃ vs', all2 F s.heap Ps' vs' ∧ ∀ Q : List (Str × Value) → Shared → Prop, Q (xs.zip vs') s → wpAny (md B) A (bindArgs (mkFd name qual params body scope (clOf C.env.cells scope.names []) dV pm doc ctv c') ⟨vs, []⟩) Q noE s)
    (hex : ∀ A h₀ a dV pm doc ctv c', Room (n + 1) A → A.handled = none → Base B h₀ → (∀ k', k = k' + 1 → Cod (mkC B A h₀ (mkFd name qual params body scope (clOf C.env.cells scope.names []) dV pm doc ctv c') a) k') →
      Bod (mkC B A h₀ (mkFd name qual params body scope (clOf C.env.cells scope.names []) dV pm doc ctv c') a) (updL ρ₀ xs Ps') body P) : (pcall (B := B) (n + 1) Ps P).p (low F C.h₀.objs.size) h v := by
  have hv' : (pmade (B := B) k name qual params body scope (clOf C.env.cells scope.names []) d pos).p (low F C.h₀.objs.size) h v := Pd.weak _ hv fun b q => .inl q.1
  have hcells : ∀ x, (x, NameKind.free) ∈ scope.names → ∃ c u, C.env.cells.lookup x = some c ∧ C.h₀.objs.size ≤ c ∧ h.IsCell c u := fun x q => by
    have h1 := List.all_eq_true.mp hca _ q
    simp only [bne_self_eq_false, Bool.false_or, Bool.and_eq_true, beq_iff_eq] at h1
    obtain ⟨c, u, hl, _, h0, hc⟩ := f.own x h1.1 h1.2
    exact ⟨c, u, hl, h0, hc⟩
  have hcl : ∀ p ∈ clOf C.env.cells scope.names [], p.2 < h.objs.size := fun p hp => by
    rcases mem_clOf hp with q | q
    · cases q
    · obtain ⟨c, u, hl, h0, ⟨o, e, _⟩⟩ := hcells _ q.1
      rw [q.2, hl]; exact Heap.lt_size e
  have hap : (clOf C.env.cells scope.names []).Pairwise fun x y => x.2 ≠ y.2 := nodup_clOf (I := f.inj) hnd (fun n hn => by obtain ⟨c, _, hl, _⟩ := hcells n hn; rw [hl]; rfl) (fun p hp => nomatch hp) .nil
  have hcf : ∀ x P, ρ₀ x = some P → ∃ c u, (clOf C.env.cells scope.names []).lookup x = some c ∧ C.h₀.objs.size ≤ c ∧ h.IsCell c (some u) ∧ P.p F h u := fun x P hx => by
    obtain ⟨hl, hr, _⟩ := hρ x P hx
    have hm := mem_of_lookup hl
    have h1 := List.all_eq_true.mp hca _ hm
    simp only [bne_self_eq_false, Bool.false_or, Bool.and_eq_true, beq_iff_eq] at h1
    obtain ⟨c, u, hcl, hc, hp⟩ := f.cel x P hr (.inl h1.2)
    obtain ⟨c2, u2, hcl2, _, h0, _⟩ := f.own x h1.1 h1.2
    rw [hcl] at hcl2; cases hcl2
    obtain ⟨c', hc'⟩ := Option.isSome_iff_exists.mp (lookup_clOf (cells := C.env.cells) (acc := []) (.inl hm))
    rcases mem_clOf (mem_of_lookup hc') with r | r
    · cases r
    · have r2 : c' = (C.env.cells.lookup x).getD 0 := r.2
      have r3 : c' = c := by rw [r2, hcl]; rfl
      subst r3
      exact ⟨c', u, hc', h0, hc, hp⟩
  obtain ⟨a, pm, doc, ctv, c', dV, rfl, hFa, g, gc, gt, dv⟩ := id hv'
  refine ⟨⟨a, _, _, rfl, hFa, g, rfl, rfl⟩, ?_⟩
  intro F' A s vs p hr hh hst hb hlt hvs
  have g' := p.obj _ _ g (.inl hFa) (.inl rfl)
  have gc' := gc.pres p
  have gt' := gc.tabs gt p
  have dv' : Dv (fun _ => False) s.heap dV d := (dv.pres p).weak fun b q => q.elim
  obtain ⟨vs', hvs', hbd⟩ := hbind F' s A.in1 dV pm doc ctv c' vs hlt dv' hvs
  refine clo_call g' rfl (GoodCode.rec gc' hq) hr hst hb hlt hbd hk rfl rfl hco hgen (by rw [hlen, hvs'.length]) hvs' hxs (fun q hq => Nat.lt_of_lt_of_le (hcl q hq) p.size) hap (ρ₀ := ρ₀) (fun x P hx => ?_) (hex A s.heap a dV pm doc ctv c' hr hh hb fun k' hk' => ?_)
  · obtain ⟨hl, _, hL⟩ := hρ x P hx
    obtain ⟨c, u, h1, h2, ⟨oc, e, ed⟩, h4⟩ := hcf x P hx
    refine ⟨hl, c, u, ?_, cell_pres ⟨oc, e, ed⟩ (fun q => Nat.lt_irrefl _ (Nat.lt_of_lt_of_le q.2 h2)) p, hL _ _ _ h4 _ _⟩
    rw [lookup_cellsFrom_other fun r => by have := lookup_mem_nodup hnd r; simp only at this; rw [hl] at this; cases this]
    exact h1
  · obtain ⟨q, hq', o, vs₁, t, P', e, hc, hd, hvv, hh', hm⟩ := id gc'
    exact ⟨c', P', rfl, hh', gt' k' hk' P' hh', hm⟩
end Mine
open PySem PySem.W PyProof.Rows
set_option Elab.async false
set_option maxRecDepth 100000
set_option linter.unusedVariables false
set_option linter.unusedSimpArgs false
namespace Mine
variable {B : Bs} {C : Cx B} {ρ : Rho B} {μ : Mu B}
theorem Pres.thenX {F : Addr → Prop} {h h₁ h' : Heap} {L : Addr} {o : Obj} (x : Pres B F h h₁) (hs : Heap.ExtBut L h₁ h') (hz : h₁.objs.size ≤ h'.objs.size) (hL : h.get? L = none) (e : h₁.get? L = some o) (hp : plainObj o) : Pres B F h h' :=
  ⟨fun b o' e' f t => hs b o' (fun q => by rw [q, hL] at e'; cases e') (x.obj b o' e' f t), fun b o' e' f t => by obtain ⟨sl, e''⟩ := x.frm b o' e' f t; exact ⟨sl, hs b _ (fun q => by rw [q, hL] at e'; cases e') e''⟩, fun k b g => (Pres.extBut (B := B) (F := fun b => b = L) hs (fun o' e' => ⟨by rw [e] at e'; cases e'; exact hp, rfl⟩) hz).tab k b (x.tab k b g), Nat.le_trans x.size hz⟩
/-- a new function object -/
noncomputable def EvF (C : Cx B) (ρ : Rho B) (μ : Mu B) (e : Expr) : Prop := ∀ F s, Frm C F s.heap ρ μ → wpAny (md B) C.A (eval e C.env) (fun v s' => Stp B s s' ∧ ∃ a fd, v = .ref a ∧ s.heap.objs.size ≤ a ∧ s'.heap.get? a = some { cls := .type "function", data := .func fd }) noE s
theorem EvF.lam {args : Arguments} {body : Expr} {scope : Scope} {pos : Pos} {k : Nat} (hc : Cod C k) (hq : B.qual pos.line pos.col = some (C.env.qual ++ "<lambda>")) (hca : capt C scope.names = true := by rfl) (hz : scope.names.length ≤ 100 := by decide)
    (hd : defaultsOf args C.env = ([], []) := by rfl) (hkw : args.kwonlyargs = [] := by rfl) : EvF C ρ μ (.Lambda args body scope pos) := fun F s f => by
  have e : eval (.Lambda args body scope pos) C.env = (do
    let (d, kd) := defaultsOf args C.env
    let dv ← evalAll d
    let kdv ← holding dv (evalAllOpt kd)
    makeFunction "<lambda>" (C.env.qual ++ "<lambda>") args (.expr body) scope C.env dv kdv [] pos pos.line) := by rfl
  rw [e, hd]
  refine wpAny_bind (wpAny_pure (wpAny_bind (wpAny_pure ?_)))
  rw [makeFunction_eq]
  simp only [List.zip_nil_right, List.filterMap_nil, List.isEmpty_nil, if_true, pure_bind]
  obtain ⟨c, P, h1, h2, h3, h4⟩ := hc
  refine wpMono (mkTail f.h f.glob (closureFor_eq (capt_some f hca)) h1 (CodeHd.keeps' h2 f.pres) (f.pres.tab _ _ h3) h4 hq (Nat.le_trans (clOf_length _ _) (Nat.le_trans (by simpa using hz) (by decide)))) fun v s' ⟨a, ev, m⟩ => ?_
  subst ev
  obtain ⟨pm, doc, ctv, c', g, _⟩ := m.obj
  exact ⟨m.stp, a, _, rfl, m.new, g⟩
/-- x = lambda ..; x.attr = e; return x -/
theorem Ex.attrRet {x attr : Str} {px px2 px3 pat p1 p2 p3 : Pos} {lam e : Expr} {P Q : Pd B} (hl : EvF C ρ μ lam) (hk : Sto C x) (he : ∀ a, Ev C (upd ρ x (pv (.ref a))) μ e P)
    (hc : ∀ F h w a, Frm C F h (upd ρ x (pv (.ref a))) μ → P.p F h w → Q.p (low F C.h₀.objs.size) h w)
    (hn : typeLookup (.type "function") attr = pure none) (hd : (x == ("__debug__" : Str)) = false := by decide) (hcd : (x == ("__classdict__" : Str)) = false := by decide)
    (hs : swapsWith lam (some (.Name x px)) p1.line C.env = pure false := by rfl) (hs2 : swapsWith e (some (.Attribute (.Name x px2) attr pat)) p2.line C.env = pure false := by rfl) :
    Ex C ρ μ [.Assign [.Name x px] lam p1, .Assign [.Attribute (.Name x px2) attr pat] e p2, .Return (some (.Name x px3)) p3] (.ret (pattr attr Q)) := fun F s f => by
  refine wpAny_execs_cons (wpAny_Assign_Name (wpMono (hl F s f) fun v s₁ ⟨p₁, a, fd, ev, ha, hg⟩ => ?_) hs)
  subst ev
  have hfree : s.heap.get? a = none := Heap.get?_none_of_le ha
  have f₁ := f.grow (F' := fun b => F b ∨ b = a) p₁.p (fun b q => q.imp id fun q => by rw [q]; exact hfree) (fun b q => .inl q) fun b q => q.elim (fun q => Nat.lt_of_lt_of_le (f.lt b q) p₁.p.size) fun q => by rw [q]; exact Heap.lt_size hg
  have hm : ¬ Mut C μ a := fun q => Nat.lt_irrefl _ (Nat.lt_of_lt_of_le (f.lt a (f.mutF q)) ha)
  refine wpMono (st_any (P := pv (.ref a)) f₁ rfl hk) fun _ s₂ ⟨r₂, f₂, p₂⟩ => ?_
  have g₂ := p₂.obj _ _ hg (.inl hm) (.inl rfl)
  refine wpAny_execs_cons (plainObj_wpAny_Assign_Attribute (wpMono (he a _ s₂ f₂) fun w s₃ ⟨p₃, h₃⟩ => ?_) hs2)
  have f₃ := f₂.step p₃.p
  have g₃ := p₃.p.obj _ _ g₂ (.inl fun q => q) (.inl rfl)
  refine wpMono (Ev.name (P := pv (.ref a)) (if_pos rfl) hd hcd _ s₃ f₃) fun ov s₄ ⟨p₄, e₄⟩ => ?_
  obtain rfl : ov = .ref a := e₄
  have f₄ := f₃.step p₄.p
  have g₄ := p₄.p.obj _ _ g₃ (.inl fun q => q) (.inl rfl)
  have h₄ := P.mono h₃ p₄.p.any
  refine set_fn_attr (B := B) g₄ rfl rfl rfl hn fun h' tk o' e1 e2 e3 e4 e5 e6 e7 => ?_
  have hx : Heap.ExtBut a s₄.heap h' := fun b ob hb e => e6 b ob hb e
  have pl : ∀ o, s₄.heap.get? a = some o → plainObj o := fun o e => by rw [g₄] at e; cases e; exact plain_func rfl
  have h0 : C.h₀.get? a = none := Heap.get?_none_of_le (Nat.le_trans f.pres.size ha)
  have f₅ : Frm C (fun b => F b ∨ b = a) h' (upd ρ x (pv (.ref a))) μ := f₄.touch hx e7 (.inr rfl) hm h0 pl (fun c v ⟨oc, ec, dc⟩ q => by subst q; rw [g₄] at ec; cases ec; cases dc)
  have pF : Pres B (fun b => F b ∨ b = a) s₄.heap h' := .extBut hx (fun o e => ⟨pl o e, .inr rfl⟩) e7
  refine wpAny_execs_cons (wpAny_Return_some (wpMono (Ev.name (P := pv (.ref a)) (if_pos rfl) hd hcd _ { s₄ with heap := h', toks := tk } f₅) fun rv s₆ ⟨p₆, e₆⟩ => ?_))
  obtain rfl : rv = .ref a := e₆
  have f₆ := f₅.step p₆.p
  refine ⟨⟨p₆.r.1.trans (p₄.r.1.trans (p₃.r.1.trans (r₂.1.trans p₁.r.1))), p₆.r.2.trans (p₄.r.2.trans (p₃.r.2.trans (r₂.2.trans p₁.r.2))), p₆.r.3.trans (p₄.r.3.trans (p₃.r.3.trans (r₂.3.trans p₁.r.3)))⟩, ?_, f₆.pres, ?_⟩
  · exact (Pres.thenX (((p₁.p.any.trans p₂).trans p₃.p.any).trans p₄.p.any) hx e7 hfree g₄ (plain_func rfl)).trans p₆.p.any
  · obtain ⟨oc, od, odt, osl⟩ := o'
    dsimp only at e2 e3 e4
    subst e2 e3 e4
    obtain ⟨od', es, ep, q1, q2, q3⟩ := e5
    have hh0 : C.h₀.objs.size ≤ s₄.heap.objs.size := f₄.pres.size
    refine ⟨a, _, fd, s₄.heap.objs.size, _, w, rfl, fun q => Nat.lt_irrefl _ (Nat.lt_of_lt_of_le q.2 (Nat.le_trans f.pres.size ha)), p₆.p.obj _ _ e1 (.inl fun q => q) (.inl rfl), rfl, rfl, rfl, fun q => Nat.lt_irrefl _ (Nat.lt_of_lt_of_le q.2 hh0), ns_pres ⟨od', es, ep, q1, q2, q3⟩ (fun q => q) p₆.p, if_pos rfl, ?_⟩
    have := hc _ _ w a f₆ (P.mono (P.mono h₄ pF) p₆.p.any)
    exact Q.weak this fun b q => .inl ⟨.inl q.1, q.2⟩
end Mine
open PySem PySem.W PyProof.Rows
set_option Elab.async false
set_option maxRecDepth 100000
set_option linter.unusedVariables false
set_option linter.unusedSimpArgs false
namespace Mine
open Builtin Builtin.Str Builtin.BaseException Builtin.Exceptions
variable {B : Bs} {C : Cx B} {ρ : Rho B} {μ : Mu B}
/-- an exception of the class Cl, with one text as its argument -/
inductive PExc (Cl : Addr) (R : Str) (F : Addr → Prop) (h : Heap) (v : Value) : Prop
  | mk (e : Addr) (o : Obj) (vs : Array Value) (t : Addr) (tk : Tok) (ev : v = .ref e) (hF : ¬ F e) (g : h.get? e = some o) (hc : o.cls = .ref Cl) (hd : o.data = .fields vs) (h0 : vs[0]? = some (.ref t)) (hFt : ¬ F t) (ht : h.TupAt t [.str R tk])
noncomputable def pexc (Cl : Addr) (R : Str) : Pd B where
  p F h v := PExc Cl R F h v
  mono := by rintro _ _ _ _ ⟨e, o, vs, t, tk, ev, hF, g, hc, hd, h0, hFt, ⟨ot, n, gt, ct, dt⟩⟩ p; exact ⟨e, o, vs, t, tk, ev, hF, p.obj _ _ g (.inl hF) (.inl (by unfold isVar isTab isFrm; rw [hc, hd]; rfl)), hc, hd, h0, hFt, ⟨ot, n, p.obj _ _ gt (.inl hFt) (.inl (by unfold isVar isTab isFrm; rw [ct, dt]; rfl)), ct, dt⟩⟩
  weak := by rintro _ _ _ _ ⟨e, o, vs, t, tk, ev, hF, g, hc, hd, h0, hFt, ⟨ot, n, gt, ct, dt⟩⟩ hw; exact ⟨e, o, vs, t, tk, ev, fun q => (hw e q).elim hF fun z => (by rw [z] at g; cases g), g, hc, hd, h0, fun q => (hw t q).elim hFt fun z => (by rw [z] at gt; cases gt), ⟨ot, n, gt, ct, dt⟩⟩
section
variable {prog : Program} {w : World} {K : Frag} {A : Around} {E : Value → Shared → Prop} {s : Shared} {e t Cl : Addr} {o : Obj} {vs : Array Value} {m : Str} {tk : Tok}
theorem bexcArgs_own {M : Model} {items : List Value} {Q : Value × List Value → Shared → Prop} (ho : s.heap.get? e = some o) (hd : o.data = .fields vs) (h0 : vs[0]? = some (.ref t)) (ht : s.heap.TupAt t items) (hq : Q (.ref t, items) s) :
    wpAny M A (bexcArgs (.ref e)) Q E s := by
  obtain ⟨ot, k, hto, _, htd⟩ := ht
  unfold bexcArgs
  refine wpAny_bind (wpAny_field ho hd h0 (wpAny_bind (wpAny_seqItems hto htd ?_)))
  have : items.toArray.toList = items := by simp
  show wpAny M A (pure (Value.ref t, items.toArray.toList)) Q E s
  rw [this]; exact wpAny_pure hq
theorem bexcStr_own {Q : Fin → Shared → Prop} (ho : s.heap.get? e = some o) (hd : o.data = .fields vs) (h0 : vs[0]? = some (.ref t)) (ht : s.heap.TupAt t [.str m tk]) (hq : Q (.done (.ret (.str m tk))) s) :
    wpAny (model prog w) A (Builtin.«BaseException.__str__» ⟨[.ref e], []⟩) Q E s := by
  unfold Builtin.«BaseException.__str__»
  repeat (first | with_reducible refine bexcArgs_own ho hd h0 ht ?_ | wp_step)
  exact hq
theorem bexc_kind : builtinKind "BaseException.__str__" = some .slot := by decide +kernel
theorem bexc_split : splitId "BaseException.__str__" = some ("BaseException", "__str__") := by decide +kernel
theorem slot_exc_str : Slot "Exception" "__str__" "BaseException.__str__" := .of (owner := "BaseException") (n := "__str__") (by rw [typeLookup_type, builtinLookup_eq_fast]; kernel_rfl) (by decide +kernel) (by decide +kernel) (by decide +kernel)
    (by first | exact .inl (by decide +kernel) | exact .inr (by decide +kernel)) (by rw [isSubtype_type]; kernel_rfl)
theorem call_bexcStr_own {Q : Value → Shared → Prop} (X : K.In s.heap) (ho : s.heap.get? e = some o) (hc : o.cls = .ref Cl) (hd : o.data = .fields vs) (h0 : vs[0]? = some (.ref t)) (ht : s.heap.TupAt t [.str m tk])
    (hs : subIn K (.ref Cl) (.type "BaseException") = some true) (hq : Q (.str m tk) s) : wpAny (model prog w) A (PySem.call (.builtin "BaseException.__str__") [.ref e]) Q E s := by
  have ty : Looks (model prog w) s.heap (typeOf (.ref e)) (.ref Cl) := by
    rw [← hc]; exact (Looks.ld ho).andThen .now
  have hi : Looks (model prog w) s.heap (isInstance (.ref e) (.type "BaseException")) true := ty.andThen (looks_subIn X hs)
  refine wpAny_call (codeAny_call_builtin slot_exc_str.plain F.entry_bexc_str (@check_slot (model prog w) _ _ s "BaseException.__str__" "BaseException" "__str__" (.ref e) [] [] _ bexc_kind bexc_split hi (F.args_bexc_str _) ?_))
  exact bexcStr_own ho hd h0 ht hq
theorem strOf_own {Q : Value → Shared → Prop} (hu : A.units < cLine) (X : K.In s.heap) (ho : s.heap.get? e = some o) (hc : o.cls = .ref Cl) (hd : o.data = .fields vs) (h0 : vs[0]? = some (.ref t)) (ht : s.heap.TupAt t [.str m tk])
    (hs : subIn K (.ref Cl) (.type "BaseException") = some true) (hl : findIn K (.ref Cl) "__str__" = some (some (.builtin "BaseException.__str__"))) (hq : Q (.str m tk) s) : wpAny (model prog w) A (Builtin.Str.strOf (.ref e)) Q E s := by
  have ty : Looks (model prog w) s.heap (typeOf (.ref e)) (.ref Cl) := by
    rw [← hc]; exact (Looks.ld ho).andThen .now
  have cs : ∀ {Q : Option Value → Shared → Prop}, Q (some (.str m tk)) s → wpAny (model prog w) A (callSpecial? (.ref e) "__str__") Q E s := fun {Q} hq => by
    unfold callSpecial?
    refine wpAny_bind ((ty.andThen (looks_findIn X hl)) _ _ _ s (fun _ _ z => z) ?_)
    dsimp only
    refine wpAny_holding (wpAny_bind ?_)
    rw [slot_exc_str.bind]
    exact wpAny_pure (wpAny_bind (call_bexcStr_own X ho hc hd h0 ht hs (wpAny_pure hq)))
  unfold Builtin.Str.strOf
  repeat (first | with_reducible refine wpAny_cRoomFor hu ?_ | with_reducible refine cs ?_ | wp_step)
  exact hq
theorem str_of_own {Q : Value → Shared → Prop} (hu : A.units + 2 < cLine) (X : K.In s.heap) (ho : s.heap.get? e = some o) (hc : o.cls = .ref Cl) (hd : o.data = .fields vs) (h0 : vs[0]? = some (.ref t)) (ht : s.heap.TupAt t [.str m tk])
    (hs : subIn K (.ref Cl) (.type "BaseException") = some true) (hl : findIn K (.ref Cl) "__str__" = some (some (.builtin "BaseException.__str__"))) (hq : Q (.str m tk) s) : wpAny (model prog w) A (PySem.call (.type "str") [.ref e]) Q E s :=
  callType_new F.called_str (by decide) (F.typeCall_str_1 _) (F.newCall_str_1 _) (fun obj => F.args_object_init_2 obj _) F.entry_str_new
    (meets_str_new (S := fun A' R s' => A'.units + 1 < cLine ∧ s' = s ∧ R (.ok (.ret (.str m tk))) s')
      fun p w A' R s' hq => by
        obtain ⟨h1, rfl, h2⟩ := hq
        exact strOf_own (A := A'.in1) h1 X ho hc hd h0 ht hs hl h2)
    ⟨(show A.units + 1 + 1 < cLine from hu), rfl, typeIs_str _ _ _, hq⟩
end
end Mine
open PySem PySem.W PyProof.Rows
set_option Elab.async false
set_option maxRecDepth 100000
set_option linter.unusedVariables false
set_option linter.unusedSimpArgs false
namespace Mine
variable {B : Bs} {C : Cx B} {ρ : Rho B} {μ : Mu B}
/-- all that stands fast through a raise -/
noncomputable def Fast (B : Bs) (mid base : Heap) : Prop := ∀ b o, mid.get? b = some o → (isFrm o = false ∨ ¬ B.mt b) → base.get? b = some o
theorem Fast.after {h₀ mid base h' : Heap} (p : Pres B none' h₀ mid) (x : Fast B mid base) (hs : base.StaysIn h') (hu : mid.UpToSlots h') (hz : h₀.objs.size ≤ h'.objs.size) : Pres B none' h₀ h' where
  obj := fun b o e f t => hs b o (x b o (p.obj b o e f t) (t.imp (fun t => by unfold isVar at t; rw [Bool.or_eq_false_iff] at t; exact t.2) id))
  frm := fun b o e f t => by
    obtain ⟨sl, e'⟩ := p.frm b o e f t
    obtain ⟨sl', e''⟩ := hu b _ e' fun vs q => by unfold isFrm at t; rw [show o.data = _ from q] at t; cases t
    exact ⟨sl', e''⟩
  tab := fun k b g => GoodTab.keep (B := B) (h := mid) (fun b o e t => hs b o (x b o e (.inl (by
    unfold isFrm
    rcases t with ⟨_, vs, q⟩ | t
    · rw [q]
    · unfold isTab at t
      split at t
      · rename_i h; rw [h]
      · cases t)))) k b (p.tab k b g)
  size := hz
/-- an exception that has left a call -/
structure Flown (B : Bs) (A : Around) (s s' : Shared) (e Cl : Addr) (w : Value) : Prop where
  rest : Rest s s'
  fly : ∃ l base t, A.frames = some l ∧ (∀ h'', base.StaysIn h'' → s'.heap.UpToSlots h'' → s.heap.objs.size ≤ h''.objs.size → Pres B none' s.heap h'') ∧ Heap.FlyingW base l e (.ref Cl) (.ref t) s'.heap ∧ s'.heap.TupAt t [w] ∧ base.get? t = none ∧
    (∀ o, s.heap.get? t = some o → ∃ vs, o.data = .fields vs) ∧ (∀ o, s.heap.get? e = some o → ∃ vs, o.data = .fields vs)
  size : s.heap.objs.size ≤ s'.heap.objs.size
structure FnX (B : Bs) (n : Nat) (v : Value) (R : Str) (Cl : Addr) : Prop where
  kept : Kept B v
  call : ∀ F A s w, Room n A → A.handled = none → Stk B A s.heap → Base B s.heap → (∀ b, F b → b < s.heap.objs.size) → (pstr (B := B) R).p F s.heap w →
    wpAny (md B) A (PySem.call v [w] []) (fun _ _ => False) (fun ev s' => ∃ e tk, ev = .ref e ∧ Flown B A s s' e Cl (.str R tk)) s
theorem funFrames_of {A : Around} {h : Heap} {l : List Env} (hs : ∀ env ∈ l, env.scope.kind = .function ∧ ∃ L, env.frame = some L ∧ B.N0 ≤ L ∧ ∃ o es n, h.get? L = some o ∧ o.data = .dict es n) {as : List Addr} (has : ∀ env ∈ l, ∀ a, env.frame = some a → a ∈ as) : h.FunFrames (hideAll h as) l := by
  induction l with
  | nil => trivial
  | cons env r ih =>
    obtain ⟨hk, L, hf, hn, o, es, n, ho, hd⟩ := hs env (.head _)
    exact ⟨by rw [hk]; decide, ⟨L, o, hf, hideAll_none _ (has env (.head _) L hf), ho, fun vs q => by rw [hd] at q; cases q⟩, ih (fun e he => hs e (.tail _ he)) fun e he => has e (.tail _ he)⟩
/-- leaving the frame where the exception was made -/
theorem leave_made {F : Addr → Prop} {h : Heap} {s' : Shared} {l : List Env} {e Cl : Addr} {ws : List Value} {E : Value → Shared → Prop} {Q : Unit → Shared → Prop} (f : Frm C F h ρ μ) (hA : C.A.frames = some (C.env :: l)) (hf : C.env.frame = some C.env.locals)
    (hx : Heap.MadeExcOf h s'.heap e (.ref Cl) ws)
    (hQ : ∀ h' base t, Heap.FlyingW base l e (.ref Cl) (.ref t) h' → h'.TupAt t ws → base.get? t = none → Fast B h base → h.UpToSlots h' → h.get? t = none → h.get? e = none → Q () { s' with heap := h' }) : wpAny (md B) C.A (leaving C.env (.ref e)) Q E s' := by
  obtain ⟨l', e', hs⟩ := f.stack
  rw [hA] at e'; cases e'
  have has : ∀ env ∈ (C.env :: l), ∀ a, env.frame = some a → a ∈ (C.env :: l).filterMap (·.frame) := fun env he b hb => List.mem_filterMap.mpr ⟨env, he, hb⟩
  refine wpAny_leaves_madeW hA hf (base := hideAll h ((C.env :: l).filterMap (·.frame))) (fun b o q => of_hideAll _ q) (funFrames_of (A := C.A) hs has) hx fun h' t x1 x2 x3 x4 => hQ h' _ t x1 x2 x3 (fun b o eb t => hideAll_get _ eb fun hm => ?_) ((Heap.UpToSlots.of_keeps hx.keeps).trans x4) ?_ hx.new
  · obtain ⟨env, he, hfr⟩ := List.mem_filterMap.mp hm
    obtain ⟨_, L, hf', hn, o', es, n, ho, hd⟩ := hs env he
    rw [hfr] at hf'; cases hf'
    rw [eb] at ho; cases ho
    rcases t with t | t
    · unfold isFrm at t; rw [hd] at t; cases t
    · exact t (.inr hn)
  · cases ht : h.get? t with
    | none => rfl
    | some ot =>
      exfalso
      obtain ⟨o', n, g1, g2, g3⟩ := x2
      cases hfr : isFrm ot with
      | true =>
        obtain ⟨sl, g4⟩ := ((Heap.UpToSlots.of_keeps hx.keeps).trans x4) t ot ht fun vs q => by unfold isFrm at hfr; rw [q] at hfr; cases hfr
        rw [g1] at g4; cases g4
        unfold isFrm at hfr; rw [show ot.data = _ from g3] at hfr; cases hfr
      | false =>
        have := hideAll_get ((C.env :: l).filterMap (·.frame)) ht fun hm => ?_
        · rw [x3] at this; cases this
        · obtain ⟨env, he, hfr'⟩ := List.mem_filterMap.mp hm
          obtain ⟨_, L, hf', hn, o'', es, n', ho, hd⟩ := hs env he
          rw [hfr'] at hf'; cases hf'
          rw [ht] at ho; cases ho
          unfold isFrm at hfr; rw [hd] at hfr; cases hfr
/-- what stands when a def has raised -/
noncomputable def FnXP (B : Bs) (A : Around) (s : Shared) (Cl : Addr) (R : Str) : Value → Shared → Prop := fun ev s' => ∃ e tk, ev = .ref e ∧ Rest s s' ∧ ∃ l base t, A.frames = some l ∧ (∀ h'', base.StaysIn h'' → s'.heap.UpToSlots h'' → s.heap.objs.size ≤ h''.objs.size → Pres B none' s.heap h'') ∧ Heap.FlyingW base l e (.ref Cl) (.ref t) s'.heap ∧ s'.heap.TupAt t [.str R tk] ∧ base.get? t = none ∧ (∀ o, s.heap.get? t = some o → ∃ vs, o.data = .fields vs) ∧ (∀ o, s.heap.get? e = some o → ∃ vs, o.data = .fields vs)
/-- a def that raises at once: if t: raise Cl(x) -/
theorem FnX.intro {a Cl : Addr} {fd : FuncData} {rest : List Stmt} {x y : Str} {R : Str} {n : Nat} {t : Expr} {np yp cpos rp ip : Pos} {Bn newId initId : String} {bm : List Value}
    (hget : ∀ h, Base B h → ∃ o, h.get? a = some o ∧ o.data = .func fd ∧ h.CodeRec fd.code fd.qualname)
    (ht : ∀ A h₀, Room (n + 1) A → A.handled = none → Base B h₀ → EvT (mkC B A h₀ fd a) (updL (fun _ => none) [x] [pstr R]) (fun _ => none) t true)
    (O : OwnCls y Cl bm newId B.mg B.hb) (FB : ExcBaseFacts Bn newId initId bm)
    (hbind : ∀ v, bindArgs fd ⟨[v], []⟩ = pure [(x, v)])
    (hbody : fd.body = .stmts (.If t [.Raise (some (.Call (.Name y np) [.Name x yp] [] cpos)) none rp] [] ip :: rest) := by rfl) (hclo : fd.closure = [] := by rfl) (hk : fd.scope.kind = .function := by rfl) (hg : fd.globals = mainGlobals := by rfl) (hbl : fd.builtins = builtinsNs := by rfl)
    (hco : fd.scope.isCoroutine = false := by rfl) (hgen : fd.scope.isGenerator = false := by rfl)
    (hx : fd.scope.names.lookup x = some .local := by rfl) (hy : fd.scope.names.lookup y = some .globalImplicit := by rfl)
    (hdx : (x == ("__debug__" : Str)) = false := by decide) (hcx : (x == ("__classdict__" : Str)) = false := by decide) (hdy : (y == ("__debug__" : Str)) = false := by decide) : FnX B (n + 1) (.ref a) R Cl where
  kept := fun h hb => let ⟨o, h1, h2, _⟩ := hget h hb; ⟨o, fd, h1, h2⟩
  call := fun F A s w hr hh hst hb hlt hvs => by
    suffices main : wpAny (md B) A (PySem.call (.ref a) [w] []) (fun _ _ => False) (FnXP B A s Cl R) s from
      wpAny_mono (wpAny_size main) (fun _ _ x => x.1) fun ev s' ⟨⟨e, tk, h1, h2, h3⟩, hz⟩ => ⟨e, tk, h1, h2, h3, hz⟩
    obtain ⟨o, ho, hd, hcd⟩ := hget _ hb
    obtain ⟨l, hA, _⟩ := id hst
    have hA' : (mkC B A s.heap fd a).A.frames = some ((mkC B A s.heap fd a).env :: l) := by show A.frames.map _ = _; rw [hA]; rfl
    refine wpAny_call (codeAny_call_function (by have := hr.depth; show A.depth < 1000; omega) ho hd hco hgen hbody hcd ?_)
    rw [hbind w]
    refine wpAny_pure (wpAny_mono (enter (A := A) (ρ₀ := fun _ => none) (xs := [x]) (vs := [w]) (Ps := [pstr R]) hb hst hlt hk hg hbl rfl ⟨hvs, trivial⟩ (by intro z hz; simp at hz; subst hz; exact .inl hx) (by rw [hclo]; intro _ h; cases h) (by rw [hclo]; exact .nil) (fun _ _ q => nomatch q)) (fun env s₂ h₂ => ?_) fun _ _ q => q.elim)
    obtain ⟨rfl, r₂, F', hF, hF', f₂⟩ := h₂
    refine ⟨f₂.h.nolimit, codeAny_func ?_⟩
    refine wpAny_execs_cons (wpAny_If (wpAny_mono (ht A s.heap hr hh hb F' s₂ f₂) (fun b s₃ ⟨p₃, hb₃⟩ => ?_) fun _ _ q => q.elim))
    subst hb₃
    simp only [if_true]
    have f₃ := f₂.step p₃.p
    obtain ⟨tl, N, nm, q, bs, hdct, sn, sub, ab, col, dd, k0, k1, k2, k3, k5, mN, hC, hN, hni, T⟩ := O.obj
    have hst₂ := f₂.stk
    refine wpAny_execs_cons (wpAny_Raise_call_subT (C := Cl) (nm := nm) (q := q) (N := N) (bs := bs) (bm := tl) (hdct := hdct) (sn := sn) (sub := sub) (ab := ab) (col := col) (dd := dd) (k0 := k0) (k1 := k1) (k2 := k2) (k3 := k3) (k5 := k5)
      FB (mN := mN) (T.hasType FB.hasBase) hh (by rfl) hni (wpAny_mono ((Ev.glob (C := mkC B A s.heap fd a) (ρ := updL (fun _ => none) [x] [pstr R]) (μ := fun _ => none) (show (mkC B A s.heap fd a).env.kindOf y = _ from hy) O.bound hdy) F' s₃ f₃) (fun fv s₄ ⟨p₄, e₄⟩ => ⟨e₄, ?_⟩) fun _ _ q => q.elim))
    have f₄ := f₃.step p₄.p
    refine PySem.Calls.evalArgs_plain ?_
    refine wpAny_mono ((EvL.cons (C := mkC B A s.heap fd a) (ρ := updL (fun _ => none) [x] [pstr R]) (μ := fun _ => none) (Ev.name (x := x) (P := pstr R) (by simp [updL, upd]) hdx hcx) EvL.nil) F' s₄ cpos f₄) (fun vs s₅ ⟨p₅, h₅⟩ => ?_) fun _ _ q => q.elim
    have f₅ := f₄.step p₅.p
    obtain ⟨w', rfl, hw'⟩ := one_arg h₅
    obtain ⟨tk, rfl⟩ := str_of hw'
    have k₅ := f₅.h.keep
    refine ⟨rfl, by simp [sizeLine], k₅ _ _ hC, hN.keeps k₅, T.keeps k₅, fun h' ea hx' => ?_⟩
    refine wpMono (Q := fun _ s'' => ∃ h'' base t, s'' = { s₅ with heap := h'' } ∧ Heap.FlyingW base l ea (.ref Cl) (.ref t) h'' ∧ h''.TupAt t [.str R tk] ∧ base.get? t = none ∧ Fast B s₅.heap base ∧ s₅.heap.UpToSlots h'' ∧ s₅.heap.get? t = none ∧ s₅.heap.get? ea = none)
      (leave_made (C := mkC B A s.heap fd a) (s' := { s₅ with heap := h' }) f₅ hA' rfl hx' fun h'' base t x1 x2 x3 x4 x5 x6 x7 => ⟨h'', base, t, rfl, x1, x2, x3, x4, x5, x6, x7⟩) fun _ s'' ⟨h'', base, t, e1, x1, x2, x3, x4, x5, x6, x7⟩ => ?_
    subst e1
    have pp := f₅.pres
    have new : ∀ b, s₅.heap.get? b = none → ∀ o, s.heap.get? b = some o → ∃ vs, o.data = .fields vs := fun b hb o ho => by
      by_cases h : ∃ vs, o.data = .fields vs
      · exact h
      · obtain ⟨sl, e'⟩ := pp.data ho (fun q => q) fun vs q => h ⟨vs, q⟩
        have e'' : s₅.heap.get? b = _ := e'
        rw [hb] at e''; cases e''
    show FnXP B A s Cl R _ _
    unfold FnXP
    exact ⟨ea, tk, rfl, ⟨(p₅.r.1.trans (p₄.r.1.trans (p₃.r.1.trans r₂.1))), (p₅.r.2.trans (p₄.r.2.trans (p₃.r.2.trans r₂.2))), (p₅.r.3.trans (p₄.r.3.trans (p₃.r.3.trans r₂.3)))⟩,
      l, base, t, hA, fun h3 y1 y2 y3 => x4.after pp y1 (x5.trans y2) y3, x1, x2, x3, new t x6, new ea x7⟩
end Mine
open PySem PySem.W PyProof.Rows
set_option Elab.async false
set_option maxRecDepth 100000
set_option linter.unusedVariables false
set_option linter.unusedSimpArgs false
namespace Mine
variable {B : Bs} {C : Cx B} {ρ : Rho B} {μ : Mu B}
theorem Frm.less {F F₀ : Addr → Prop} {h : Heap} (f : Frm C F h ρ μ) (hs : ∀ b, F₀ b → F b) (hk : ∀ b, F b → (∃ o, h.get? b = some o ∧ ∀ vs, o.data ≠ .fields vs) → F₀ b) : Frm C F₀ h ρ μ where
  base := f.base
  pres := f.pres
  kind := f.kind
  glob := f.glob
  blt := f.blt
  fl := by
    obtain ⟨m, ⟨o, es, ep, e, hd, _⟩, _⟩ := f.loc
    exact hk _ f.fl ⟨o, e, fun vs q => by rw [hd] at q; cases q⟩
  lt := fun b q => f.lt b (hs b q)
  fresh := f.fresh
  stk := f.stk
  loc := let ⟨m, a, hm⟩ := f.loc; ⟨m, a, fun x P q k => let ⟨v, a, b⟩ := hm x P q k; ⟨v, a, P.weak b fun b q => .inl (hs b q)⟩⟩
  cel := fun x P q k => let ⟨c, v, a, e, b⟩ := f.cel x P q k; ⟨c, v, a, e, P.weak b fun b q => .inl (hs b q)⟩
  kinds := f.kinds
  own := fun x q k => let ⟨c, v, a, b, d, e⟩ := f.own x q k; ⟨c, v, a, hk _ b (let ⟨o, e, hd⟩ := e; ⟨o, e, fun vs q => by rw [hd] at q; cases q⟩), d, e⟩
  inj := f.inj
  lst := fun a Ps q => let ⟨x, y, vs, z, w⟩ := f.lst a Ps q; ⟨hk _ x (let ⟨n, e⟩ := z; ⟨_, e, fun vs q => by cases q⟩), y, vs, z, w.weak fun b q => .inl (hs b q)⟩
/-- the frame under an exception that is handled -/
noncomputable abbrev Cx.held (C : Cx B) (e : Addr) : Cx B := { C with A := C.A.mark (some (.ref e)) }
theorem Frm.held {F : Addr → Prop} {h : Heap} (f : Frm C F h ρ μ) (e : Addr) : Frm (C.held e) F h ρ μ where
  base := f.base
  pres := f.pres
  kind := f.kind
  glob := f.glob
  blt := f.blt
  fl := f.fl
  lt := f.lt
  fresh := f.fresh
  stk := f.stk
  loc := f.loc
  cel := f.cel
  kinds := f.kinds
  own := f.own
  inj := f.inj
  lst := f.lst
theorem Ex1.tryX {g cls n : Str} {ye : Expr} {gp cp ep clp rp hp pos : Pos} {v : Value} {R : Str} {Cl : Addr} {k : Nat} {e : Expr} {P : Pd B} {bmB : List Value} {newId : String} {l : List Env} (hl : C.A.frames = some (C.env :: l)) (hf : C.env.frame = some C.env.locals)
    (hg : Ev C ρ μ (.Name g gp) (pv v)) (hy : Ev C ρ μ ye (pstr R)) (hx : FnX B k v R Cl) (hr : Room k C.A) (hh : C.A.handled = none)
    (O : OwnClsQ cls Cl bmB newId B.mg B.hb) (hbase : bmB.contains (.type "BaseException") = true)
    (he : ∀ ea, Ev (C.held ea) (upd ρ n (pexc Cl R)) μ e P) (hP : Lasts P)
    (hn : C.env.kindOf n = some .local) (hcl : C.env.kindOf cls = some .globalImplicit) (hdc : (cls == ("__debug__" : Str)) = false := by decide) (hrho : ρ n = none := by rfl)
    (hst : starEach [ye] C.env = (false, eval ye C.env) :: starEach [] C.env := by rfl) (hpl : (backTo cp (starEach [ye] C.env)).any (·.1) = false := by rfl) (hi : interactive C.env = false := by rfl) (hs : swapsWith (.Call (.Name g gp) [ye] [] cp) none ep.line C.env = pure false := by rfl) :
    Ex1 C ρ μ (.Try [.Expr (.Call (.Name g gp) [ye] [] cp) ep] [.ExceptHandler (some (.Name cls clp)) (some n) [.Return (some e) rp] hp] [] [] pos) (.ret P) := fun F s f => by
  refine wpAny_Try_except (wpAny_execs_cons (wpAny_Expr_any (wpAny_Call_NameR (wpAny_mono (hg F s f) (fun gv s₁ ⟨p₁, h₁⟩ => ?_) fun _ _ q => q.elim)) hi hs))
  obtain rfl : gv = v := h₁
  refine callWith_any hx.kept hpl (wpAny_mono ((EvL.cons hy EvL.nil hst) F s₁ cp (f.step p₁.p)) (fun vs s₂ ⟨p₂, h₂⟩ => ?_) fun _ _ q => q.elim)
  have f₂ := (f.step p₁.p).step p₂.p
  refine ⟨f₂.h, ?_⟩
  obtain ⟨w, rfl, hw⟩ := one_arg h₂
  refine wpAny_mono (hx.call F C.A s₂ w hr hh f₂.stack f₂.h f₂.lt hw) (fun _ _ q => q.elim) fun ev s₃ ⟨ea, tk, ev', fl⟩ => ?_
  subst ev'
  obtain ⟨r₃, ⟨l', base, t, hl', adv, fly, tup, bt, newT, newE⟩, z₃⟩ := fl
  rw [hl] at hl'; cases hl'
  refine wpSize (Q := fun _ s₄ => ∃ h₄, s₄ = { s₃ with heap := h₄ } ∧ Heap.HeldW base (C.env :: l) ea (.ref Cl) (.ref t) C.env.locals h₄ ∧ s₃.heap.UpToSlots h₄) (wpAny_looks_onW hl hf fly fun h₄ x1 x2 => ⟨h₄, rfl, x1, x2⟩) fun _ s₄ ⟨h₄, e₄, held₄, u₄⟩ z₄ => ?_
  subst e₄
  refine wpSize (Q := fun _ s₅ => ∃ h₅, s₅ = { s₃ with heap := h₅ } ∧ Heap.FlyingW base (C.env :: l) ea (.ref Cl) (.ref t) h₅ ∧ h₄.UpToSlots h₅) (wpAny_landsW held₄ fun h₅ x1 x2 => ⟨h₅, rfl, x1, x2⟩) fun _ s₅ ⟨h₅, e₅, fly₅, u₅⟩ z₅ => ?_
  subst e₅
  have u35 := u₄.trans u₅
  have z25 : s₂.heap.objs.size ≤ h₅.objs.size := Nat.le_trans z₃ (Nat.le_trans z₄ z₅)
  have p5 : Pres B none' s₂.heap h₅ := adv h₅ fly₅.1 u35 z25
  have b5 := f₂.h.pres p5
  refine handleBy_own_as (mg := B.mg) (newId := newId) (C := Cl) (x := cls) hbase ?_
  refine wpAny_Name ?_ hdc
  rw [loadName_read f.kind hcl]
  refine PySem.Calls.loadGlobal_global (by rw [f.glob]; exact B.g.keeps b5.keep) O.bound ⟨rfl, O.keeps b5.keep, fly₅.there, ?_⟩
  refine wpSize (Q := fun _ s₆ => ∃ h₆, s₆ = { s₃ with heap := h₆ } ∧ Heap.FlyingW base (C.env :: l) ea (.ref Cl) (.ref t) h₆ ∧ h₅.UpToSlots h₆) (lands_againW fly₅ fun h₆ x1 x2 => ⟨h₆, rfl, x1, x2⟩) fun _ s₆ ⟨h₆, e₆, fly₆, u₆⟩ z₆ => ?_
  subst e₆
  have p6 : Pres B none' s₂.heap h₆ := adv h₆ fly₆.1 (u35.trans u₆) (Nat.le_trans z25 z₆)
  have f₃ : Frm C (fun b => F b ∧ b ≠ ea ∧ b ≠ t) s₂.heap ρ μ := f₂.less (fun b q => q.1) fun b q ⟨o, eo, hd⟩ => ⟨q, fun z => by subst z; obtain ⟨vs, e⟩ := newE o eo; exact hd vs e, fun z => by subst z; obtain ⟨vs, e⟩ := newT o eo; exact hd vs e⟩
  have f₆ := (f₃.step p6).held ea
  obtain ⟨oe, ws, T, oT, ts, hoe, ⟨hoc, ho0⟩, hod, _⟩ := fly₆.2.2.2
  have tup₆ := tup.of_slots (u35.trans u₆)
  have pe : (pexc (B := B) Cl R).p (fun b => F b ∧ b ≠ ea ∧ b ≠ t) h₆ (.ref ea) := ⟨ea, oe, ws, t, tk, rfl, fun q => q.2.1 rfl, hoe, hoc, hod, ho0, fun q => q.2.2 rfl, tup₆⟩
  refine wpAny_mono (st_any (C := C.held ea) (s := { s₃ with heap := h₆ }) f₆ pe (.inl hn)) (fun _ s₇ ⟨r₇, f₇, p₇⟩ => ?_) fun _ _ q => q.elim
  refine wpAny_execs_cons (wpAny_Return_some (wpAny_mono (he ea _ s₇ f₇) (fun rv s₈ ⟨p₈, h₈⟩ => ?_) fun _ _ q => q.elim))
  have f₈ := f₇.step p₈.p
  refine wpAny_bind (wpAny_bindName (wpAny_mono (st_any (C := C.held ea) (P := pnone) f₈ of_none (.inl hn)) (fun _ s₉ ⟨r₉, f₉, p₉⟩ => ?_) fun _ _ q => q.elim))
  obtain ⟨m, hns, hm⟩ := f₉.loc
  obtain ⟨u, hu, _⟩ := hm n pnone (if_pos rfl) hn
  unfold unbindBehindTheSuite
  refine wpAny_onRaise (wpAny_unbindName_local hn hns hu (by rw [f.kind]; rfl) fun h' u' hns' hsb => ?_)
  have p₁₀ : Pres B (Mut C μ) s₉.heap h' := let ⟨_, _, _, eo, hd, _⟩ := id hns; Pres.sameBut hsb eo (plain_dict hd) (.inl rfl)
  have pM : Pres B (Mut C μ) s.heap h' := ((((((p₁.p.trans p₂.p).trans p6).any).trans p₇).trans p₈.p.any).trans p₉).trans p₁₀
  refine ⟨?_, pM, ?_⟩
  · have a1 := p₁.r; have a2 := p₂.r; have a8 := p₈.r
    exact ⟨r₉.1.trans (a8.1.trans (r₇.1.trans (r₃.1.trans (a2.1.trans a1.1)))), r₉.2.trans (a8.2.trans (r₇.2.trans (r₃.2.trans (a2.2.trans a1.2)))), r₉.3.trans (a8.3.trans (r₇.3.trans (r₃.3.trans (a2.3.trans a1.3))))⟩
  · have f10 : Pres B none' C.h₀ h' := f₉.pres.then (let ⟨_, _, _, eo, hd, _⟩ := id hns; Pres.sameBut (F := fun b => b = C.env.locals) hsb eo (plain_dict hd) rfl) fun b q => by rw [q]; exact f.fresh
    exact ⟨f10, hP _ _ _ h₈ _ _⟩
end Mine
open PySem PySem.W PyProof.Rows
set_option Elab.async false
set_option maxRecDepth 100000
set_option linter.unusedVariables false
set_option linter.unusedSimpArgs false
namespace Mine
variable {B : Bs} {C : Cx B} {ρ : Rho B} {μ : Mu B}
noncomputable def strKeysB (es : Array DictEntry) : Bool := es.toList.all fun e => match e.key with | .str _ _ => true | _ => false
theorem ns_of_K {K : Frag} {h : Heap} (X : K.In h) {N : Addr} {c : Value} {d : Option Addr} {es : Array DictEntry} {n : Nat} {sl : Array (Option Value)} (e : K.lookup N = some ⟨c, d, .dict es n, sl⟩) (hk : strKeysB es = true) : h.Ns N (fun x => nsFind es x) :=
  ⟨_, es, n, X _ _ e, rfl, by
    refine ⟨?_, fun _ => rfl⟩
    intro en hen
    have := List.all_eq_true.mp hk en (Array.mem_toList_iff.mpr hen)
    cases hq : en.key with
    | str n t => exact ⟨n, t, rfl⟩
    | _ => rw [hq] at this; cases this⟩
noncomputable def quietB (es : Array DictEntry) : Bool := quietNames.all fun n => (nsFind es n).isNone
theorem quiet_of {es : Array DictEntry} (h : quietB es = true) : ∀ n ∈ quietNames, nsFind es n = none := fun n hn => by
  have := List.all_eq_true.mp h n hn
  simpa using this
/-- str of an exception of ours -/
theorem fn_strE {K : Frag} (HK : K.In B.hb) {H : Option Value → Prop} {Cl : Addr} {R : Str} (hs : subIn K (.ref Cl) (.type "BaseException") = some true) (hl : findIn K (.ref Cl) "__str__" = some (some (.builtin "BaseException.__str__"))) : Fn B 0 (.type "str") [pexc Cl R] (pstr R) H where
  kept := trivial
  call := fun F A s vs hr hh hst hb hlt hv => by
    obtain ⟨v, rfl, h1⟩ := one_arg hv
    obtain ⟨e, o, ws, t, tk, rfl, _, g, hc, hd, h0, _, ht⟩ := h1
    exact str_of_own (prog := B.prog) (w := B.w) (by have := hr.units; have h9 : cLine = 9900 := rfl; omega) (fun a o e => hb.keep _ _ (HK a o e)) g hc hd h0 ht hs hl ⟨.refl, of_str⟩
end Mine
open PySem PySem.W PyProof.Rows
set_option Elab.async false
set_option maxRecDepth 100000
set_option linter.unusedVariables false
set_option linter.unusedSimpArgs false
namespace Mine
variable {B : Bs} {C : Cx B} {ρ : Rho B} {μ : Mu B}
theorem Ev.cast {e : Expr} {P Q : Pd B} (h : Ev C ρ μ e P) (hq : P = Q) : Ev C ρ μ e Q := hq ▸ h
theorem Ev.castI {e : Expr} {i j : Int} (h : Ev C ρ μ e (pint i)) (hq : i = j) : Ev C ρ μ e (pint j) := hq ▸ h
theorem Ev.castS {e : Expr} {i j : List Nat} (h : Ev C ρ μ e (ptx i)) (hq : i = j) : Ev C ρ μ e (ptx j) := hq ▸ h
theorem Ev.castB {e : Expr} {i j : Bool} (h : Ev C ρ μ e (pbool i)) (hq : i = j) : Ev C ρ μ e (pbool j) := hq ▸ h
theorem Ev.castD {e : Expr} {i j : D} (h : Ev C ρ μ e (pd i)) (hq : i = j) : Ev C ρ μ e (pd j) := hq ▸ h
theorem EvT.cast {e : Expr} {i j : Bool} (h : EvT C ρ μ e i) (hq : i = j) : EvT C ρ μ e j := hq ▸ h
theorem EvT.ic {l r : Expr} {op : CmpOp} {pos : Pos} {i j : Int} {b : Bool} (hl : Ev C ρ μ l (pint i)) (hr : Ev C ρ μ r (pint j)) (hb : cmpI op i j = b) (ho : isOrd op = true := by rfl)
    (hm : behindInMarks op r = false := by with_unfolding_all rfl) : EvT C ρ μ (.Compare l [op] [r] pos) b := hb ▸ EvT.cmp (Ev.icmp hl hr ho hm)
theorem Ev.ic {l r : Expr} {op : CmpOp} {pos : Pos} {i j : Int} {b : Bool} (hl : Ev C ρ μ l (pint i)) (hr : Ev C ρ μ r (pint j)) (hb : cmpI op i j = b) (ho : isOrd op = true := by rfl)
    (hm : behindInMarks op r = false := by with_unfolding_all rfl) : Ev C ρ μ (.Compare l [op] [r] pos) (pbool b) := hb ▸ Ev.icmp hl hr ho hm
theorem Ev.eqc {l r : Expr} {pos : Pos} {i j : List Nat} {b : Bool} (hl : Ev C ρ μ l (ptx i)) (hr : Ev C ρ μ r (ptx j)) (hb : (i == j) = b) (hm : behindInMarks .Eq r = false := by with_unfolding_all rfl) : Ev C ρ μ (.Compare l [.Eq] [r] pos) (pbool b) := hb ▸ Ev.eqS hl hr hm
theorem Ev.nec {l r : Expr} {pos : Pos} {i j : List Nat} {b : Bool} (hl : Ev C ρ μ l (ptx i)) (hr : Ev C ρ μ r (ptx j)) (hb : (i != j) = b) (hm : behindInMarks .NotEq r = false := by with_unfolding_all rfl) : Ev C ρ μ (.Compare l [.NotEq] [r] pos) (pbool b) := hb ▸ Ev.neS hl hr hm
theorem EvT.eqc {l r : Expr} {pos : Pos} {i j : List Nat} {b : Bool} (hl : Ev C ρ μ l (ptx i)) (hr : Ev C ρ μ r (ptx j)) (hb : (i == j) = b) (hm : behindInMarks .Eq r = false := by with_unfolding_all rfl) : EvT C ρ μ (.Compare l [.Eq] [r] pos) b := EvT.cmp (Ev.eqc hl hr hb hm)
theorem EvT.nec {l r : Expr} {pos : Pos} {i j : List Nat} {b : Bool} (hl : Ev C ρ μ l (ptx i)) (hr : Ev C ρ μ r (ptx j)) (hb : (i != j) = b) (hm : behindInMarks .NotEq r = false := by with_unfolding_all rfl) : EvT C ρ μ (.Compare l [.NotEq] [r] pos) b := EvT.cmp (Ev.nec hl hr hb hm)
/-- and of two tests -/
theorem EvT.and2 {x y : Expr} {pos : Pos} {a b : Bool} (hx : EvT C ρ μ x a) (hy : a = true → EvT C ρ μ y b) : EvT C ρ μ (.BoolOp .And [x, y] pos) (a && b) := by
  cases a with
  | false => exact EvT.boolop (EvA.and_no hx)
  | true => exact EvT.boolop (EvA.and_yes hx (by
      cases b with
      | false => exact EvA.and_no (hy rfl)
      | true => exact EvA.and_yes (hy rfl) EvA.and_nil))
theorem EvT.or2 {x y : Expr} {pos : Pos} {a b : Bool} (hx : EvT C ρ μ x a) (hy : a = false → EvT C ρ μ y b) : EvT C ρ μ (.BoolOp .Or [x, y] pos) (a || b) := by
  cases a with
  | true => exact EvT.boolop (EvA.or_yes hx)
  | false => exact EvT.boolop (EvA.or_no hx (by
      cases b with
      | true => exact EvA.or_yes (hy rfl)
      | false => exact EvA.or_no (hy rfl) EvA.or_nil))
theorem Room.held {n : Nat} {A : Around} {h : Option Value} (r : Room n A) : Room n (A.mark h) := ⟨r.depth, r.units, r.guards, r.frames⟩
noncomputable def anyH : Option Value → Prop := fun _ => True
/-- len of a text, of a list -/
theorem Ev.len {K : Frag} (HK : K.In B.hb) {np pos : Pos} {e : Expr} {l : List Nat} (he : Ev C ρ μ e (ptx l)) (hl : l.length ≤ 100000) (hr : Room 0 C.A) (hk : C.env.kindOf (Str.ofString "len") = some .globalImplicit) (hm : nsIn K mainGlobals (Str.ofString "len") = some Option.none)
    (hst : starEach [e] C.env = [(false, eval e C.env)] := by rfl) : Ev C ρ μ (.Call (.Name (Str.ofString "len") np) [e] [] pos) (pint l.length) :=
  Ev.call (H := anyH) (Ev.blt hk (blt_of HK hm) (by rw [B.hbl _ (by decide)]; kernel_rfl) (by decide)) (EvL.cons he EvL.nil hst) (fn_lenS l (by lia)) hr trivial (by rw [hst]; rfl)
theorem Ev.lenL {K : Frag} (HK : K.In B.hb) {np pos : Pos} {e : Expr} {l : List D} (he : Ev C ρ μ e (pd (.lst l))) (hl : l.length ≤ 100000) (hr : Room 0 C.A) (hk : C.env.kindOf (Str.ofString "len") = some .globalImplicit) (hm : nsIn K mainGlobals (Str.ofString "len") = some Option.none)
    (hst : starEach [e] C.env = [(false, eval e C.env)] := by rfl) : Ev C ρ μ (.Call (.Name (Str.ofString "len") np) [e] [] pos) (pint l.length) :=
  Ev.call (H := anyH) (Ev.blt hk (blt_of HK hm) (by rw [B.hbl _ (by decide)]; kernel_rfl) (by decide)) (EvL.cons he EvL.nil hst) (fn_lenL l (by lia)) hr trivial (by rw [hst]; rfl)
theorem cmp_lt {a b : Nat} (h : a < b) : cmpI .Lt (a : Int) (b : Int) = true := by simp [cmpI]; omega
theorem cmp_nlt {a b : Nat} (h : ¬ a < b) : cmpI .Lt (a : Int) (b : Int) = false := by simp [cmpI]; lia
/-- ∀ of predicates -/
noncomputable def pall {ι : Type} (P : ι → Pd B) : Pd B := ⟨fun F h v => ∀ i, (P i).p F h v, fun x p i => (P i).mono (x i) p, fun x w i => (P i).weak (x i) w⟩
end Mine
open PySem PySem.W PyProof.Rows
set_option Elab.async false
set_option maxRecDepth 100000
set_option linter.unusedVariables false
set_option linter.unusedSimpArgs false
namespace Mine
variable {B : Bs} {C : Cx B} {ρ : Rho B} {μ : Mu B}
open PySem.SeqAt
theorem ne_nil {A : Around} {E : Value → Shared → Prop} {s : Shared} {l b : Addr} {vs : List Value} {Q : Value → Shared → Prop} (hl : IsSeq s.heap "list" l vs) (hb : IsSeq s.heap "list" b []) (hu : A.units < cLine) (h : Q (.bool (!vs.isEmpty)) s) : wpAny (md B) A (compareOp .NotEq (.ref l) (.ref b)) Q E s := by
  obtain ⟨n, ho⟩ := hl
  obtain ⟨n2, ho2⟩ := hb
  cases vs with
  | nil =>
    exact richCompare_meets_room (op := .NotEq) ⟨_, ho, rfl⟩ ⟨_, ho2, rfl⟩ F.slot_list_ne F.entry_list_ne (F.args_list_ne_2 _ _) (list_neAt l b [].toArray [].toArray n n2 none none #[] #[] rfl (fun _ => true))
      ⟨ho, ho2, fun j h1 => absurd h1 (Nat.not_lt_zero _), show Value.bool false ≠ Value.notImplemented ∧ Q (.bool false) s from ⟨(fun x => nomatch x), h⟩⟩ hu
  | cons v vs =>
    exact richCompare_meets_room (op := .NotEq) ⟨_, ho, rfl⟩ ⟨_, ho2, rfl⟩ F.slot_list_ne F.entry_list_ne (F.args_list_ne_2 _ _) (list_ne_lengthsAt l b (v :: vs).toArray [].toArray n n2 none none #[] #[] (by simp))
      ⟨ho, ho2, show Value.bool true ≠ Value.notImplemented ∧ Q (.bool true) s from ⟨(fun x => nomatch x), h⟩⟩ hu
theorem Room.u {n : Nat} {A : Around} (r : Room n A) : A.units < cLine := by have := r.units; have h9 : cLine = 9900 := rfl; lia
/-- x != [] -/
theorem Ev.neNil {l r : Expr} {pos : Pos} {x : List D} (hl : Ev C ρ μ l (pd (.lst x))) (hr : Ev C ρ μ r (pd (.lst []))) (hro : Room 0 C.A) (hm : behindInMarks .NotEq r = false := by with_unfolding_all rfl) : Ev C ρ μ (.Compare l [.NotEq] [r] pos) (pbool (!x.isEmpty)) :=
  Ev.cmp hl hr (fun F s a b f ha hb => by
    obtain ⟨c, vs, rfl, _, hq, hr⟩ := lst_of ha
    obtain ⟨d, ws, rfl, _, hq', hr'⟩ := lst_of hb
    have e2 := reps_length hr'
    have : ws = [] := List.eq_nil_of_length_eq_zero e2
    subst this
    have e1 := reps_length hr
    refine ne_nil hq hq' hro.u ⟨.refl, ?_⟩
    have : vs.isEmpty = x.isEmpty := by cases vs <;> cases x <;> simp_all
    rw [this]; exact of_bool) hm
end Mine
open PySem PySem.W PyProof.Rows
set_option Elab.async false
set_option maxRecDepth 100000
set_option linter.unusedVariables false
set_option linter.unusedSimpArgs false
namespace Mine
variable {B : Bs} {C : Cx B} {ρ : Rho B} {μ : Mu B}
open PySem.SeqAt
/-- the script: a list of ints, whoever laid it -/
noncomputable def pscr (ns : List Int) : Pd B where
  p F h v := ∃ a vs, v = .ref a ∧ ¬ F a ∧ h.IsList a (List.toArray vs) ∧ IntsAre vs ns
  mono := fun ⟨a, vs, e, hF, ⟨o, g, hc, n, hd⟩, hi⟩ p => ⟨a, vs, e, hF, ⟨o, p.obj _ _ g (.inl hF) (.inl (by unfold isVar isTab isFrm; rw [hc, hd]; rfl)), hc, n, hd⟩, hi⟩
  weak := fun ⟨a, vs, e, hF, ⟨o, g, hc, n, hd⟩, hi⟩ hw => ⟨a, vs, e, fun q => (hw a q).elim hF fun z => (by rw [z] at g; cases g), ⟨o, g, hc, n, hd⟩, hi⟩
theorem ne_nilI {A : Around} {E : Value → Shared → Prop} {s : Shared} {l b : Addr} {vs : List Value} {Q : Value → Shared → Prop} (hl : s.heap.IsList l vs.toArray) (hb : IsSeq s.heap "list" b []) (hu : A.units < cLine) (h : Q (.bool (!vs.isEmpty)) s) : wpAny (md B) A (compareOp .NotEq (.ref l) (.ref b)) Q E s := by
  obtain ⟨⟨cls, dd, data, sl⟩, ho, hc, n, hd⟩ := hl
  obtain ⟨n2, ho2⟩ := hb
  dsimp only at hc hd
  subst hc hd
  cases vs with
  | nil =>
    exact richCompare_meets_room (op := .NotEq) ⟨_, ho, rfl⟩ ⟨_, ho2, rfl⟩ F.slot_list_ne F.entry_list_ne (F.args_list_ne_2 _ _) (list_neAt l b [].toArray [].toArray n n2 dd none sl #[] rfl (fun _ => true))
      ⟨ho, ho2, fun j h1 => absurd h1 (Nat.not_lt_zero _), show Value.bool false ≠ Value.notImplemented ∧ Q (.bool false) s from ⟨(fun x => nomatch x), h⟩⟩ hu
  | cons v vs =>
    exact richCompare_meets_room (op := .NotEq) ⟨_, ho, rfl⟩ ⟨_, ho2, rfl⟩ F.slot_list_ne F.entry_list_ne (F.args_list_ne_2 _ _) (list_ne_lengthsAt l b (v :: vs).toArray [].toArray n n2 dd none sl #[] (by simp))
      ⟨ho, ho2, show Value.bool true ≠ Value.notImplemented ∧ Q (.bool true) s from ⟨(fun x => nomatch x), h⟩⟩ hu
theorem Ev.neNilI {l r : Expr} {pos : Pos} {ns : List Int} (hl : Ev C ρ μ l (pscr ns)) (hr : Ev C ρ μ r (pd (.lst []))) (hro : Room 0 C.A) (hm : behindInMarks .NotEq r = false := by with_unfolding_all rfl) : Ev C ρ μ (.Compare l [.NotEq] [r] pos) (pbool (!ns.isEmpty)) :=
  Ev.cmp hl hr (fun F s a b f ha hb => by
    obtain ⟨c, vs, rfl, _, hq, hi⟩ := ha
    obtain ⟨d, ws, rfl, _, hq', hr'⟩ := lst_of hb
    have e2 := reps_length hr'
    have : ws = [] := List.eq_nil_of_length_eq_zero e2
    subst this
    refine ne_nilI hq hq' hro.u ⟨.refl, ?_⟩
    have : vs.isEmpty = ns.isEmpty := by cases hi <;> rfl
    rw [this]; exact of_bool) hm
theorem reps_ints {F : Addr → Prop} {h : Heap} : ∀ {vs : List Value} {ns : List Int}, IntsAre vs ns → reps F h vs (ns.map .int)
  | _, _, .nil => by simp [reps]
  | _, _, .cons n t r => by simp only [List.map_cons, reps, rep]; exact ⟨⟨_, rfl⟩, reps_ints r⟩
theorem Ev.slI {value : Expr} {lo hi : Option Expr} {a b : Option Int} {p pos : Pos} {ns : List Int} (hv : Ev C ρ μ value (pscr ns)) (ha : EvP C ρ μ lo a) (hb : EvP C ρ μ hi b) (h1 : nn a) (h2 : nn b) (hl : ns.length ≤ sizeLine) :
    Ev C ρ μ (.Subscript value (.Slice lo hi Option.none p) pos) (pd (.lst (slc (ns.map .int) a b))) := fun F s f => by
  refine Subscript_ (wpMono (hv F s f) fun o s₁ ⟨p₁, h₁⟩ => wpAny_Slice (wpMono (ha.run (f.step p₁.p)) fun vl s₂ ⟨p₂, pl, e₂, m₂⟩ => wpMono (hb.run ((f.step p₁.p).step p₂.p)) fun vu s₃ ⟨p₃, pu, e₃, m₃⟩ => wpAny_evalPart_none ?_))
  have h₃ := (pscr (B := B) ns).mono h₁ (p₂.trans p₃).p.any
  have f₃ := (((f.step p₁.p).step p₂.p).step p₃.p)
  have h₄ := (pscr (B := B) ns).mono h₃ (Pres.push (B := B) (F := F) { cls := .type "slice", data := .fields #[vl, vu, Value.none] })
  obtain ⟨c, vs, rfl, hF, hq', hI⟩ := h₄
  have hlen : vs.length = ns.length := hI.length
  have part : ∀ p : Option (Int × Tok), IsPart (partValue p) (p.map (·.1)) := fun p => by
    cases p with
    | none => exact .none
    | some p => exact .int _ _
  have pl' := part pl
  have pu' := part pu
  rw [← e₂, m₂] at pl'
  rw [← e₃, m₃] at pu'
  refine tail_any (s := { s₃ with heap := s₃.heap.push { cls := .type "slice", data := .fields #[vl, vu, Value.none] } }) hq'.typeIs slot_list_getitem.lookup (wpAny_getItem_list_slice hq' ⟨_, push_get rfl, rfl, rfl⟩ pl' pu' .none (by simp) ?_ (by rw [List.size_toArray, hlen]; exact hl)) rfl
  refine ⟨((p₁.trans p₂).trans p₃).trans ⟨(Pres.push _).trans (.push _), ⟨rfl, rfl, rfl⟩⟩, ?_⟩
  simp only [pd, rep]
  have e : slicePick vs.toArray a b Option.none = (slc vs a b).toArray := by
    rw [slicePick_plain]
    congr 1
    exact pick_slc vs a b h1 h2
  refine ⟨_, slc vs a b, rfl, fun q => ?_, ⟨0, ?_⟩, reps_slc (reps_ints hI)⟩
  · have := f₃.lt _ q
    simp only [Heap.size_push] at this
    exact Nat.lt_irrefl _ (Nat.lt_of_succ_lt this)
  · rw [e]; exact push_get rfl
end Mine
open PySem PySem.W PyProof.Rows
set_option Elab.async false
set_option maxRecDepth 100000
set_option linter.unusedVariables false
set_option linter.unusedSimpArgs false
namespace Mine
variable {B : Bs} {C : Cx B} {ρ : Rho B} {μ : Mu B}
open PySem.SeqAt
/-- a tuple of ints -/
noncomputable abbrev tI (l : List Int) : D := .tup (l.map .int)
theorem ints_inj {F : Addr → Prop} {h : Heap} : ∀ {vs : List Value} {l m : List Int}, reps F h vs (l.map .int) → reps F h vs (m.map .int) → l = m
  | [], [], [], _, _ => rfl
  | _ :: _, _ :: _, _ :: _, x, y => by
    simp only [List.map_cons, reps, rep] at x y
    obtain ⟨⟨t, e⟩, x⟩ := x
    obtain ⟨⟨u, e'⟩, y⟩ := y
    rw [e] at e'; cases e'
    rw [ints_inj x y]
  | [], [], _ :: _, _, y => by simp [reps] at y
  | [], _ :: _, _, x, _ => by simp [reps] at x
  | _ :: _, [], _, x, _ => by simp [reps] at x
  | _ :: _, _ :: _, [], _, y => by simp [reps] at y
theorem ref_inj {a b : Addr} (e : Value.ref a = .ref b) : a = b := by cases e; rfl
theorem tI_inj {F : Addr → Prop} {h : Heap} {v : Value} {l m : List Int} (x : rep F h v (tI l)) (y : rep F h v (tI m)) : l = m := by
  simp only [tI, rep] at x y
  obtain ⟨a, vs, rfl, _, ⟨n, g⟩, r⟩ := x
  obtain ⟨b, ws, e, _, ⟨n', g'⟩, r'⟩ := y
  have := ref_inj e
  subst this
  have e2 : some (_ : Obj) = some _ := g.symm.trans g'
  have e3 : vs.toArray = ws.toArray := by injection e2 with e2; injection e2 with _ _ e2 _; injection e2
  have e4 : vs = ws := by simpa using e3
  subst e4
  exact ints_inj r r'
theorem eq_ints {F : Addr → Prop} {s : Shared} {A : Around} : ∀ {vs ws : List Value} {l m : List Int}, reps F s.heap vs (l.map .int) → reps F s.heap ws (m.map .int) → ∀ j (h1 : j < vs.length) (h2 : j < ws.length), EqAt A s vs[j] ws[j] (l[j]? == m[j]?)
  | v :: vs, w :: ws, i :: l, k :: m, x, y, j, h1, h2 => by
    simp only [List.map_cons, reps, rep] at x y
    obtain ⟨⟨t, rfl⟩, x⟩ := x
    obtain ⟨⟨u, rfl⟩, y⟩ := y
    cases j with
    | zero => intro prog w' E Q hq; exact wpAny_eqBool_int (by simpa using hq)
    | succ j => simpa using eq_ints x y j (by simpa using h1) (by simpa using h2)
  | [], _, _, _, _, _, j, h1, _ => absurd h1 (Nat.not_lt_zero _)
  | _ :: _, [], _, _, _, _, j, _, h2 => absurd h2 (Nat.not_lt_zero _)
  | _ :: _, _ :: _, [], _, x, _, _, _, _ => by simp [reps] at x
  | _ :: _, _ :: _, _ :: _, [], _, y, _, _, _ => by simp [reps] at y
theorem all_ix {l m : List Int} : ((List.range (min l.length m.length)).all (fun j => l[j]? == m[j]?) && l.length == m.length) = (l == m) := by
  rw [Bool.eq_iff_iff]
  simp only [Bool.and_eq_true, List.all_eq_true, List.mem_range, beq_iff_eq]
  constructor
  · rintro ⟨h1, h2⟩
    refine List.ext_getElem? fun j => ?_
    by_cases hj : j < l.length
    · exact h1 j (by lia)
    · rw [List.getElem?_eq_none (by lia), List.getElem?_eq_none (by lia)]
  · rintro rfl; exact ⟨fun _ _ => rfl, rfl⟩
/-- == of two tuples of ints -/
theorem eq_tI {F : Addr → Prop} {s : Shared} {A : Around} {v w : Value} {l m : List Int} (x : rep F s.heap v (tI l)) (y : rep F s.heap w (tI m)) (hu : A.units + 1 < cLine) : EqAt A s v w (l == m) := by
  have x' := x
  have y' := y
  simp only [tI, rep] at x y
  obtain ⟨a, vs, rfl, _, hq, hr⟩ := x
  obtain ⟨b, ws, rfl, _, hq', hr'⟩ := y
  by_cases hab : a = b
  · subst hab
    rw [tI_inj x' y', beq_self_eq_true]
    exact EqAt.same _
  · refine EqAt.of_refs hab ?_
    have e1 := reps_length hr
    have e2 := reps_length hr'
    rw [List.length_map] at e1 e2
    have := RcAt.tuples (A := A) (s := s) (e := fun j => l[j]? == m[j]?) (seq_isTuple hq) (seq_isTuple hq') (by lia) (fun j h1 h2 => by
      simp only [List.getElem_toArray]
      exact eq_ints hr hr' j (by simpa using h1) (by simpa using h2))
    simp only [List.size_toArray, e1, e2] at this
    rw [all_ix] at this
    exact this
open Classical in
theorem mem_tI {F : Addr → Prop} {s : Shared} {A : Around} {w : Value} {m : List Int} (y : rep F s.heap w (tI m)) (hu : A.units + 1 < cLine) : ∃ e : Value → Bool, ∀ {vs : List Value} {ls : List (List Int)}, reps F s.heap vs (ls.map tI) →
    (∀ z, z ∈ vs → EqAt A s z w (e z)) ∧ vs.map e = ls.map (· == m) := by
  refine ⟨fun z => decide (rep F s.heap z (tI m)), ?_⟩
  intro vs
  induction vs with
  | nil => intro ls x; cases ls with
    | nil => exact And.intro (fun z hz => absurd hz List.not_mem_nil) rfl
    | cons _ _ => simp [reps] at x
  | cons v vs ih => intro ls x; cases ls with
    | nil => simp [reps] at x
    | cons l ls =>
      simp only [List.map_cons, reps] at x
      obtain ⟨i1, i2⟩ := ih x.2
      have e : decide (rep F s.heap v (tI m)) = (l == m) := by
        rw [Bool.eq_iff_iff, decide_eq_true_eq, beq_iff_eq]
        exact ⟨fun q => tI_inj x.1 q, fun q => q ▸ x.1⟩
      refine ⟨fun z hz => ?_, by rw [List.map_cons, List.map_cons, i2, e]⟩
      rcases List.mem_cons.mp hz with rfl | hz
      · show EqAt A s z w (decide _)
        rw [e]; exact eq_tI x.1 y hu
      · exact i1 z hz
theorem any_map {α : Type} {e : α → Bool} {l : List α} {r : List Bool} (h : l.map e = r) : l.any e = r.any id := by rw [← h]; simp
/-- a tuple of ints in a list of such -/
theorem Ev.inT {l r : Expr} {pos : Pos} {m : List Int} {ls : List (List Int)} (hl : Ev C ρ μ l (pd (tI m))) (hr : Ev C ρ μ r (pd (.lst (ls.map tI)))) (hro : Room 0 C.A) (hm : behindInMarks .In r = false := by with_unfolding_all rfl) : Ev C ρ μ (.Compare l [.In] [r] pos) (pbool (ls.any (· == m))) :=
  Ev.cmp hl hr (fun F s a b f ha hb => by
    obtain ⟨c, vs, rfl, _, hq, hr⟩ := lst_of hb
    obtain ⟨e, he⟩ := mem_tI (A := C.A.in1) ha (by show C.A.units + 1 + 1 < _; have := hro.units; have h9 : cLine = 9900 := rfl; omega)
    obtain ⟨e1, e2⟩ := he hr
    refine in_listAt e hq.isList (fun y hy => e1 y (by simpa using hy)) ⟨.refl, ?_⟩
    rw [List.any_toArray, any_map e2, List.any_map]
    exact of_bool) hm
theorem Ev.ninT {l r : Expr} {pos : Pos} {m : List Int} {ls : List (List Int)} (hl : Ev C ρ μ l (pd (tI m))) (hr : Ev C ρ μ r (pd (.lst (ls.map tI)))) (hro : Room 0 C.A) (hm : behindInMarks .NotIn r = false := by with_unfolding_all rfl) : Ev C ρ μ (.Compare l [.NotIn] [r] pos) (pbool (!ls.any (· == m))) :=
  Ev.cmp hl hr (fun F s a b f ha hb => by
    obtain ⟨c, vs, rfl, _, hq, hr⟩ := lst_of hb
    obtain ⟨e, he⟩ := mem_tI (A := C.A.in1) ha (by show C.A.units + 1 + 1 < _; have := hro.units; have h9 : cLine = 9900 := rfl; lia)
    obtain ⟨e1, e2⟩ := he hr
    refine notIn_listAt e hq.isList (fun y hy => e1 y (by simpa using hy)) ⟨.refl, ?_⟩
    rw [List.any_toArray, any_map e2, List.any_map]
    exact of_bool) hm
end Mine
open PySem PySem.W PyProof.Rows
set_option Elab.async false
set_option maxRecDepth 100000
set_option linter.unusedVariables false
set_option linter.unusedSimpArgs false
namespace Mine
variable {B : Bs} {C : Cx B} {ρ : Rho B} {μ : Mu B}
open PySem.SeqAt
theorem idx_of {vs : List Value} {e : Value → Bool} {r : List Bool} {j : Nat} (h : vs.map e = r) (hj : r[j]? = some true) (hno : ∀ m, m < j → r[m]? ≠ some true) :
    ∃ h1 : j < vs.toArray.size, e vs.toArray[j] = true ∧ ∀ m (hm : m < vs.toArray.size), m < j → e vs.toArray[m] = false := by
  subst h
  rw [List.getElem?_map] at hj
  cases hv : vs[j]? with
  | none => rw [hv] at hj; cases hj
  | some v =>
    obtain ⟨h1, h2⟩ := List.getElem?_eq_some_iff.mp hv
    rw [hv] at hj
    refine ⟨by simpa using h1, ?_, fun m hm hmj => ?_⟩
    · simp only [List.getElem_toArray, h2]; simpa using hj
    · have hm' : m < vs.length := by simpa using hm
      have := hno m hmj
      rw [List.getElem?_map, List.getElem?_eq_getElem hm'] at this
      simp only [List.getElem_toArray]
      simpa using this
theorem idx_call {A : Around} {F : Addr → Prop} {s : Shared} {a : Addr} {x : Value} {vs : List Value} {e : Value → Bool} {r : List Bool} {j : Nat} (hq : IsSeq s.heap "list" a vs) (he : ∀ z, z ∈ vs → EqAt A.in1 s z x (e z)) (h : vs.map e = r)
    (hj : r[j]? = some true) (hno : ∀ m, m < j → r[m]? ≠ some true) (hz : j < 10000) : wpAny (md B) A (PySem.call (.builtin "list.index") [.ref a, x] []) (fun v s' => Stp B s s' ∧ (pint (B := B) (j : Int)).p F s'.heap v) noE s := by
  obtain ⟨n, g⟩ := hq
  obtain ⟨h1, h2, h3⟩ := idx_of h hj hno
  have T : s.TypeIs (.ref a) "list" := ⟨_, g, rfl⟩
  refine call_meets PySem.F.slot_list_index T PySem.F.entry_list_index (PySem.F.args_list_index_2 _ _) (list_indexAt a vs.toArray n none #[] x e j h1 (by omega) h2 h3) ⟨g, fun y hy => he y (by simpa using hy), ?_⟩
  exact ⟨.toks, of_int⟩
open Classical in
theorem mem_int {F : Addr → Prop} {s : Shared} {A : Around} {k : Int} {t : Tok} : ∀ {vs : List Value} {ls : List Int}, reps F s.heap vs (ls.map .int) →
    (∀ z, z ∈ vs → EqAt A s z (.int k t) (decide (∃ u, z = .int k u))) ∧ vs.map (fun z => decide (∃ u, z = .int k u)) = ls.map (· == k)
  | [], [], _ => ⟨fun z hz => absurd hz List.not_mem_nil, rfl⟩
  | v :: vs, l :: ls, x => by
    simp only [List.map_cons, reps, rep] at x
    obtain ⟨⟨u, rfl⟩, x⟩ := x
    obtain ⟨i1, i2⟩ := mem_int (A := A) (k := k) (t := t) x
    have e : decide (∃ u' : Tok, Value.int l u = .int k u') = (l == k) := by
      rw [Bool.eq_iff_iff, decide_eq_true_eq, beq_iff_eq]
      exact ⟨fun ⟨_, q⟩ => by cases q; rfl, fun q => ⟨u, by rw [q]⟩⟩
    refine ⟨fun z hz => ?_, by rw [List.map_cons, List.map_cons, i2, e]⟩
    rcases List.mem_cons.mp hz with rfl | hz
    · rw [e]; intro prog w' E Q hq; exact wpAny_eqBool_int hq
    · exact i1 z hz
  | [], _ :: _, x => by simp [reps] at x
  | _ :: _, [], x => by simp [reps] at x
theorem fn_indexI {H : Option Value → Prop} (ns : List Int) (k : Int) (j : Nat) (hj : ns[j]? = some k) (hno : ∀ m, m < j → ns[m]? ≠ some k) (hz : j < 10000) : Fn B 0 (.builtin "list.index") [pd (.lst (ns.map .int)), pint k] (pint (j : Int)) H where
  kept := trivial
  call := fun F A s vs hr hh hst hb hlt hv => by
    obtain ⟨v, w, rfl, h1, h2⟩ := two_args hv
    obtain ⟨t, rfl⟩ := int_of h2
    obtain ⟨a, ws, rfl, hF, hq, hr⟩ := lst_of h1
    obtain ⟨e1, e2⟩ := mem_int (A := A.in1) (k := k) (t := t) hr
    refine idx_call hq e1 e2 (j := j) (by rw [List.getElem?_map, hj]; simp) (fun m hm q => hno m hm ?_) hz
    rw [List.getElem?_map] at q
    cases hn : ns[m]? with
    | none => rw [hn] at q; cases q
    | some n => rw [hn] at q; simp at q; rw [q]
theorem fn_indexT {H : Option Value → Prop} (ls : List (List Int)) (k : List Int) (j : Nat) (hj : ls[j]? = some k) (hno : ∀ m, m < j → ls[m]? ≠ some k) (hz : j < 10000) : Fn B 0 (.builtin "list.index") [pd (.lst (ls.map tI)), pd (tI k)] (pint (j : Int)) H where
  kept := trivial
  call := fun F A s vs hr hh hst hb hlt hv => by
    obtain ⟨v, w, rfl, h1, h2⟩ := two_args hv
    obtain ⟨a, ws, rfl, hF, hq, hr'⟩ := lst_of h1
    obtain ⟨e, he⟩ := mem_tI (A := A.in1) h2 (by show A.units + 1 + 1 < _; have := hr.units; have h9 : cLine = 9900 := rfl; lia)
    obtain ⟨e1, e2⟩ := he hr'
    refine idx_call hq e1 e2 (j := j) (by rw [List.getElem?_map, hj]; simp) (fun m hm q => hno m hm ?_) hz
    rw [List.getElem?_map] at q
    cases hn : ls[m]? with
    | none => rw [hn] at q; cases q
    | some n => rw [hn] at q; simp at q; rw [q]
/-- o.index(x) -/
theorem Ev.index {o a : Expr} {apos pos : Pos} {l : List D} {P R : Pd B} (ho : Ev C ρ μ o (pd (.lst l))) (ha : Ev C ρ μ a P) (hn : Fn B 0 (.builtin "list.index") [pd (.lst l), P] R (fun _ => True)) (hr : Room 0 C.A)
    (hbase : attributeBase o (Str.ofString "index") C.env (eval o C.env) = eval o C.env := by rfl) (hst : starEach [a] C.env = [(false, eval a C.env)] := by rfl)
    (hline : (apos.endLine == pos.line) = true := by rfl) : Ev C ρ μ (.Call (.Attribute o (Str.ofString "index") apos) [a] [] pos) R :=
  Ev.meth ho (fun F s v h => by obtain ⟨a, vs, rfl, _, ⟨n, g⟩, _⟩ := lst_of h; exact ⟨⟨_, g, rfl⟩, fun b e => by cases e; exact ⟨_, g, rfl⟩⟩) (EvL.cons ha EvL.nil hst) hn hr trivial PySem.F.plainAttrs_list PySem.F.slot_list_index PySem.F.type_list_index hbase (by rw [hst]; rfl) hline (by rw [hst]; rfl)
end Mine
open PySem PySem.W PyProof.Rows
set_option Elab.async false
set_option maxRecDepth 100000
set_option linter.unusedVariables false
set_option linter.unusedSimpArgs false
namespace Mine
variable {B : Bs} {C : Cx B} {ρ : Rho B} {μ : Mu B}
open PySem.SeqAt
theorem slot_list_iadd : Slot "list" "__iadd__" "list.__iadd__" := .of (owner := "list") (n := "__iadd__") (by rw [typeLookup_type, builtinLookup_eq_fast]; kernel_rfl) (by decide +kernel) (by decide +kernel) (by decide +kernel)
    (by first | exact .inl (by decide +kernel) | exact .inr (by decide +kernel)) (by rw [isSubtype_type]; kernel_rfl)
theorem args_list_iadd (a b : Value) : argsOk "list.__iadd__" ⟨[a, b], []⟩ := by
  unfold argsOk; rw [signature?_of (id := "list.__iadd__") (n := ['_', '_', 'd', 'd', 'a', 'i', '_', '_']) (o := ['t', 's', 'i', 'l']) (by kernel_rfl) PySem.F.owner_list]; kernel_rfl
theorem seq_list_iadd : isSeqSlot (some (.builtin "list.__iadd__")) = true := by kernel_rfl
theorem iadd_lists {A : Around} {E : Value → Shared → Prop} {s : Shared} {a b : Addr} {vs ws : List Value} {Q : Value → Shared → Prop} (hq : IsSeq s.heap "list" a vs) (hq' : IsSeq s.heap "list" b ws) (hz : vs.length + ws.length ≤ sizeLine)
    (h : ∀ h', IsSeq h' "list" a (vs ++ ws) → Heap.SameBut a s.heap h' → Q (.ref a) { s with heap := h' }) : wpAny (md B) A (inplaceOp .Add (.ref a) (.ref b)) Q E s := by
  obtain ⟨n, g⟩ := hq
  obtain ⟨n2, g2⟩ := hq'
  have T : s.TypeIs (.ref a) "list" := ⟨_, g, rfl⟩
  have T2 : s.TypeIs (.ref b) "list" := ⟨_, g2, rfl⟩
  have lk := slot_list_iadd.lookup
  unfold inplaceOp
  refine wpAny_holding ?_
  have hfi : fillsInplaceSlot (.type "list") "add" (Operator.Add == .Add) = pure false := by
    unfold fillsInplaceSlot
    show (typeLookup (.type "list") (Str.ofString "__iadd__") >>= fun fi => pure (fi.isSome && !isSeqSlot fi)) = pure false
    rw [lk]
    show (pure _ : Sem Bool) = _
    rw [seq_list_iadd]; rfl
  have hsi : seqSlot? (.type "list") (dunderI "add") = pure (some (.builtin "list.__iadd__")) := PySem.seqSlot_of lk seq_list_iadd
  refine wpAny_bind (wpAny_typeOf T (wpAny_bind (wpAny_of_eq hfi ?_)))
  show wpAny _ A (if false = true then _ else _) Q E s
  rw [if_neg Bool.false_ne_true]
  refine wpAny_bind (wpAny_binaryOp1_none (nm := "add") T T2 noFill_list_add ?_)
  refine wpAny_bind (wpAny_of_eq hsi ?_)
  refine wpAny_bind (wpAny_rule ?_)
  have hs0 : ¬(!vs.toArray.isEmpty && Builtin.List.listTooLong (vs.toArray.size + ws.toArray.size)) = true := by
    simp only [Builtin.List.listTooLong, List.size_toArray, Bool.and_eq_true, decide_eq_true_eq]
    lia
  refine call_meets slot_list_iadd T PySem.F.entry_list_iadd (args_list_iadd _ _) (AutoSeq1.list___iadd___list_list_0 a vs.toArray n b ws.toArray n2 hs0 (by simp; lia) (by simp; lia)) ⟨g, g2, ?_⟩
  refine h _ ?_ (Heap.SameBut.update ..)
  rw [IsSeq, Heap.get?_update_self _ g rfl]
  exact ⟨if (vs.toArray ++ ws.toArray).size == vs.toArray.size then n else n + 1, by simp only [Obj.mapSeq, List.append_toArray]⟩
/-- x += e, x a list that the frame owns -/
theorem Ex1.augOwn {x : Str} {pos' pos : Pos} {e : Expr} {a : Addr} {Ps : List (Pd B)} {ds : List D} (hx : ρ x = some (pv (.ref a))) (ha : μ a = some Ps) (he : Ev C ρ μ e (pd (.lst ds))) (hk : Sto C x) (hz : Ps.length + ds.length ≤ sizeLine)
    (hc : (x == ("__classdict__" : Str)) = false := by decide) : Ex1 C ρ μ (.AugAssign (.Name x pos') .Add e pos) (.next (upd ρ x (pv (.ref a))) (updM μ a (Ps ++ ds.map pd))) := fun F s f => by
  have hn : wpAny (md B) C.A (loadName C.env x) (fun v s' => s' = s ∧ v = .ref a) noE s := by
    rcases f.kinds x _ hx with k | k | k
    · obtain ⟨m, hn, hm⟩ := f.loc
      obtain ⟨v, hv, hp⟩ := hm x _ hx k
      exact wpAny_loadName_local f.kind k hn hv ⟨rfl, hp⟩
    · obtain ⟨c, v, hl, hv, hp⟩ := f.cel x _ hx (.inl k)
      exact wpAny_loadName_cell f.kind k hl hv ⟨rfl, hp⟩
    · obtain ⟨c, v, hl, hv, hp⟩ := f.cel x _ hx (.inr k)
      exact wpAny_loadName_free f.kind k hl hv ⟨rfl, hp⟩ hc
  refine wpAny_AugAssign_Name (wpMono hn fun v s₁ ⟨e₁, h₁⟩ => ?_)
  subst e₁; subst h₁
  refine wpMono (he F s₁ f) fun b s₂ ⟨p₂, h₂⟩ => ?_
  have f₂ := f.step p₂.p
  obtain ⟨hF, h0, vs, hq, hv⟩ := f₂.lst a Ps ha
  obtain ⟨b, ws, rfl, hFb, hq', hr⟩ := lst_of h₂
  refine iadd_lists hq hq' (by rw [hv.length, reps_length hr]; exact hz) fun h' hq3 hs' => ?_
  obtain ⟨f₃, p₃⟩ := f₂.setL (Ps' := Ps ++ ds.map pd) (vs' := vs ++ ws) ha hs' hq3 (hv.append (all2.pds.mpr hr))
  exact wpMono (st_any (P := pv (.ref a)) (s := { s₂ with heap := h' }) f₃ rfl hk) fun _ s₄ ⟨r₄, h₄, p₄⟩ => ⟨p₂.r.trans ⟨r₄.1, r₄.2, r₄.3⟩, p₂.p.any.trans (p₃.mut (updM_dom (Ps' := Ps ++ ds.map pd) ha) p₄), F, .setL ha h₄⟩
/-- x + e, x a list that the frame owns -/
theorem Ev.catOwn {l r : Expr} {pos : Pos} {a : Addr} {x y : List D} (hl : Ev C ρ μ l (pv (.ref a))) (ha : μ a = some (x.map pd)) (hr : Ev C ρ μ r (pd (.lst y))) (hz : x.length + y.length ≤ sizeLine) : Ev C ρ μ (.BinOp l .Add r pos) (pd (.lst (x ++ y))) :=
  Ev.bin hl hr fun F s u b f hu hb => by
    obtain rfl : u = .ref a := hu
    obtain ⟨_, _, vs, ⟨n, hq⟩, hv⟩ := f.lst a _ ha
    have hr := all2.pds.mp hv
    obtain ⟨d, ws, rfl, hF', ⟨n2, hq'⟩, hr'⟩ := lst_of hb
    have e1 := reps_length hr
    have e2 := reps_length hr'
    refine concat_meets ⟨_, hq, rfl⟩ ⟨_, hq', rfl⟩ noFill_list_add seq_list_add PySem.F.slot_list_add PySem.F.entry_list_add (PySem.F.args_list_add_2 _ _) (list_addW a d vs.toArray ws.toArray n n2 Option.none Option.none #[] #[] (by simp; lia)) ⟨hq, hq', ⟨.push _, ⟨rfl, rfl, rfl⟩⟩, ?_⟩
    simp only [pd, rep]
    refine ⟨_, vs ++ ws, rfl, fun q => Nat.lt_irrefl _ (f.lt _ q), ⟨0, ?_⟩, reps_append (hr.mono (Pres.push (B := B) _)) (hr'.mono (Pres.push (B := B) _))⟩
    rw [push_get rfl]; simp
/-- return (e, x), x a list that the frame owns -/
theorem Ex1.retOwnT {e x : Expr} {k : Nat} {tpos pos : Pos} {a : Addr} {d : D} {ds : List D} (he : Ev C ρ μ e (pd d)) (hx : Ev C ρ μ x (pv (.ref a))) (ha : μ a = some (ds.map pd))
    (h1 : starEach [e, x] C.env = (false, eval e C.env) :: starEach [x] C.env := by rfl) (h2 : starEach [x] C.env = (false, eval x C.env) :: starEach [] C.env := by rfl) : Ex1 C ρ μ (.Return (some (.Tuple [e, x] k tpos)) pos) (.ret (pd (.tup [d, .lst ds]))) := fun F s f =>
  wpAny_Return_some (wpAny_Tuple_spliced (wpMono ((EvL.cons he (EvL.cons hx EvL.nil h2) h1) F s tpos f) fun vs s₁ ⟨p₁, h₁⟩ => by
    obtain ⟨v, w, rfl, hv, hw⟩ := two_args h₁
    obtain rfl : w = .ref a := hw
    have f₁ := f.step p₁.p
    obtain ⟨hF, h0, ws, hq, hv'⟩ := f₁.lst a _ ha
    have pp : Pres B none' s₁.heap (s₁.heap.push { cls := .type "tuple", data := .seq [v, .ref a].toArray }) := .push _
    have hge : C.h₀.objs.size ≤ a := h0
    refine ⟨by simp [sizeLine], ⟨p₁.r.1, p₁.r.2, p₁.r.3⟩, (p₁.p.trans pp).any, f₁.pres.trans pp, ?_⟩
    simp only [pd, rep, reps]
    have hn : ∀ b, low F C.h₀.objs.size b → F b ∨ (s₁.heap.push { cls := .type "tuple", data := .seq [v, .ref a].toArray }).get? b = none := fun b q => .inl q.1
    refine ⟨_, [v, .ref a], rfl, fun q => Nat.lt_irrefl _ (f₁.lt _ q.1), ⟨0, push_get rfl⟩, (rep.mono (B := B) pp.any hv).weak hn, ⟨a, ws, rfl, fun q => Nat.lt_irrefl _ (Nat.lt_of_lt_of_le q.2 hge), hq.pres (B := B) (fun q => q) pp, ((all2.pds.mp hv').mono (B := B) pp.any).weak hn⟩, trivial⟩))
/-- list != list, of the same data -/
theorem Ev.neSame {l r : Expr} {pos : Pos} {x : List D} (hl : Ev C ρ μ l (pd (.lst x))) (hr : Ev C ρ μ r (pd (.lst x))) (hu : C.A.units + deps x + 1 < cLine) (hm : behindInMarks .NotEq r = false := by with_unfolding_all rfl) : Ev C ρ μ (.Compare l [.NotEq] [r] pos) (pbool false) :=
  Ev.cmp hl hr (fun F s a b f ha hb => by
    obtain ⟨c, vs, rfl, _, hq, hr⟩ := lst_of ha
    obtain ⟨d, ws, rfl, _, hq', hr'⟩ := lst_of hb
    have e1 := reps_length hr
    have e2 := reps_length hr'
    have key := RcNeAt.lists (A := C.A) (s := s) (e := fun _ => true) hq.isList hq'.isList (by simp [e1, e2]) (by lia) (fun j h1 h2 => by
        simp only [List.getElem_toArray]
        exact eq_sames x C.A.in1 vs ws hr hr' (by show C.A.units + 1 + _ < _; lia) j (by simp at h1; exact h1) (by simp at h2; exact h2))
    have e : (!(List.range vs.toArray.size).all (fun _ => true)) = false := by simp
    rw [e] at key
    exact key B.prog B.w noE _ ⟨.refl, of_bool⟩) hm
theorem Ev.neB {l r : Expr} {pos : Pos} {a b : Bool} (hl : Ev C ρ μ l (pbool a)) (hr : Ev C ρ μ r (pbool b)) (hm : behindInMarks .NotEq r = false := by with_unfolding_all rfl) : Ev C ρ μ (.Compare l [.NotEq] [r] pos) (pbool (a != b)) :=
  Ev.cmp hl hr (fun F s u v f hu hv => by rw [bool_of hu, bool_of hv]; exact ne_bool ⟨.refl, of_bool⟩) hm
/-- x < y < z -/
theorem Ev.lt3 {x y z : Expr} {pos : Pos} {i j k : Int} {b : Bool} (hx : Ev C ρ μ x (pint i)) (hy : Ev C ρ μ y (pint j)) (hz : Ev C ρ μ z (pint k)) (hb : (decide (i < j) && decide (j < k)) = b)
    (hm : lastMarks [.Lt, .Lt] [y, z] = false := by with_unfolding_all rfl) : Ev C ρ μ (.Compare x [.Lt, .Lt] [y, z] pos) (pbool b) := fun F s f => by
  refine Compare_chain (wpMono (hx F s f) fun u s₁ ⟨p₁, h₁⟩ => ?_) hm
  obtain ⟨t, rfl⟩ := int_of h₁
  refine chain_link (wpMono (hy F s₁ (f.step p₁.p)) fun v s₂ ⟨p₂, h₂⟩ => ?_)
  obtain ⟨t2, rfl⟩ := int_of h₂
  refine lt_int (truthy_b ?_)
  cases h : decide (i < j) with
  | false =>
    rw [h] at hb
    simp only [if_neg (by decide : ¬ false = true)]
    subst hb
    exact ⟨p₁.trans p₂, of_bool⟩
  | true =>
    rw [h] at hb
    simp only [if_true]
    refine chain_last (wpMono (hz F s₂ ((f.step p₁.p).step p₂.p)) fun w s₃ ⟨p₃, h₃⟩ => ?_)
    obtain ⟨t3, rfl⟩ := int_of h₃
    refine lt_int ⟨(p₁.trans p₂).trans p₃, ?_⟩
    rw [Bool.true_and] at hb
    rw [← hb]; exact of_bool
/-- o[::-1], o a list -/
theorem Ev.revL {value e : Expr} {p pos : Pos} {l : List D} (hv : Ev C ρ μ value (pd (.lst l))) (he : Ev C ρ μ e (pint (-1))) (hl : l.length ≤ sizeLine)  :
    Ev C ρ μ (.Subscript value (.Slice Option.none Option.none (some e) p) pos) (pd (.lst l.reverse)) := fun F s f => by
  refine Subscript_ (wpMono (hv F s f) fun o s₁ ⟨p₁, h₁⟩ => wpAny_Slice (wpAny_evalPart_none (wpAny_evalPart_none ?_)))
  have st : EvP C ρ μ (some e) (some (-1)) := he
  refine wpMono (st.run (f.step p₁.p)) fun vk s₃ ⟨p₃, pk, e₃, m₃⟩ => ?_
  have h₃ := (pd (B := B) (.lst l)).mono h₁ p₃.p.any
  have f₃ := ((f.step p₁.p).step p₃.p)
  obtain ⟨c, vs, rfl, hF, hq, hr⟩ := lst_of h₃
  have hq' := hq.pres hF (B := B) (.push { cls := .type "slice", data := .fields #[Value.none, Value.none, vk] })
  have part : IsPart vk (some (-1)) := by
    rw [e₃, ← m₃]
    cases pk with
    | none => exact .none
    | some p => exact .int _ _
  refine tail_any (s := { s₃ with heap := s₃.heap.push { cls := .type "slice", data := .fields #[Value.none, Value.none, vk] } }) hq'.isList.typeIs slot_list_getitem.lookup (wpAny_getItem_list_slice hq'.isList ⟨_, push_get rfl, rfl, rfl⟩ .none .none part (by simp) ?_ (by rw [List.size_toArray, reps_length hr]; exact hl)) rfl
  refine ⟨(p₁.trans p₃).trans ⟨(Pres.push _).trans (.push _), ⟨rfl, rfl, rfl⟩⟩, ?_⟩
  simp only [pd, rep]
  have rev : ∀ (vs : List Value) (ds : List D), reps F s₃.heap vs ds → reps F s₃.heap vs.reverse ds.reverse := by
    intro vs
    induction vs with
    | nil => intro ds h; cases ds with
      | nil => simp [reps]
      | cons _ _ => simp [reps] at h
    | cons v vs ih => intro ds h; cases ds with
      | nil => simp [reps] at h
      | cons d ds => simp only [reps] at h; simp only [List.reverse_cons]; exact reps_append (ih ds h.2) (by simp only [reps]; exact ⟨h.1, trivial⟩)
  refine ⟨_, vs.reverse, rfl, fun q => ?_, ⟨0, ?_⟩, ((rev vs l hr).mono (Pres.push (B := B) _)).mono (Pres.push (B := B) _)⟩
  · have := f₃.lt _ q
    simp only [Heap.size_push] at this
    exact Nat.lt_irrefl _ (Nat.lt_of_succ_lt this)
  · rw [krv_pick]; exact push_get rfl
end Mine
open PySem PySem.W PyProof.Rows
set_option Elab.async false
set_option maxRecDepth 100000
set_option maxHeartbeats 400000
set_option linter.unusedVariables false
set_option linter.unusedSimpArgs false
namespace Mine
variable {B : Bs} {C : Cx B} {ρ : Rho B} {μ : Mu B}
/-- an empty list, newer than N -/
noncomputable def pnew (N : Nat) : Pd B := ⟨fun F h v => ∃ a, v = .ref a ∧ ¬ F a ∧ N ≤ a ∧ IsSeq h "list" a [], fun ⟨a, e, hF, hN, q⟩ p => ⟨a, e, hF, hN, q.pres hF p⟩, fun ⟨a, e, hF, hN, ⟨n, q⟩⟩ hw => ⟨a, e, fun z => (hw a z).elim hF fun z => (by rw [z] at q; cases q), hN, ⟨n, q⟩⟩⟩
noncomputable def EvE {B : Bs} (N : Nat) (C : Cx B) (ρ : Rho B) (μ : Mu B) (e : Expr) (P : Pd B) : Prop :=
  ∀ F s, Frm C F s.heap ρ μ → N ≤ s.heap.objs.size → wpAny (md B) C.A (eval e C.env) (fun v s' => Stp B s s' ∧ P.p F s'.heap v) noE s
noncomputable def EvM {B : Bs} (N : Nat) (C : Cx B) (ρ : Rho B) (μ : Mu B) (es : List Expr) (Ps : List (Pd B)) : Prop :=
  ∀ F s pos, Frm C F s.heap ρ μ → N ≤ s.heap.objs.size → wpAny (md B) C.A (spliced (backTo pos (starEach es C.env))) (fun vs s' => Stp B s s' ∧ all2 F s'.heap Ps vs) noE s
theorem EvM.nil {N : Nat} : EvM N C ρ μ [] [] := fun F s pos f _ => EvL.nil F s pos f
theorem EvM.cons {N : Nat} {e : Expr} {es : List Expr} {P : Pd B} {Ps : List (Pd B)} (h : EvE N C ρ μ e P) (h' : EvM N C ρ μ es Ps) (hs : starEach (e :: es) C.env = (false, eval e C.env) :: starEach es C.env := by rfl) : EvM N C ρ μ (e :: es) (P :: Ps) := fun F s pos f hN => by
  rw [hs]
  show wpAny (md B) C.A (do let v ← eval e C.env; let here ← (pure [v] : Sem (List Value)); return here ++ (← holding here (spliced (backTo pos (starEach es C.env))))) _ _ s
  refine wpAny_bind (wpMono (h F s f hN) fun v s₁ ⟨p₁, h₁⟩ => wpAny_bind (wpAny_pure (wpAny_bind (wpAny_holding (wpMono (h' F s₁ pos (f.step p₁.p) (Nat.le_trans hN p₁.p.size)) fun vs s₂ ⟨p₂, h₂⟩ => wpAny_pure ⟨p₁.trans p₂, P.mono h₁ p₂.p.any, h₂⟩)))))
theorem EvE.of {N : Nat} {e : Expr} {P : Pd B} (h : Ev C ρ μ e P) : EvE N C ρ μ e P := fun F s f _ => h F s f
theorem EvE.new {N : Nat} {pos : Pos} : EvE N C ρ μ (.List [] pos) (pnew N) := fun F s f hN =>
  List_ (wpMono ((EvL.nil (C := C) (ρ := ρ) (μ := μ)) F s pos f) fun vs s₁ ⟨p₁, h₁⟩ => wpAny_newList ⟨p₁.trans (.push _), by
    rw [all2.length h₁ |> List.eq_nil_of_length_eq_zero]
    exact ⟨_, rfl, fun q => Nat.lt_irrefl _ ((f.step p₁.p).lt _ q), Nat.le_trans hN p₁.p.size, ⟨0, push_get rfl⟩⟩⟩ (by rw [h₁.length]; simp [sizeLine]))
theorem lasts_str {l : Str} : Lasts (pstr (B := B) l) := fun F h v x F' h' => by obtain ⟨t, rfl⟩ := str_of x; exact of_str
theorem unpack_at {A : Around} {s : Shared} {t : Addr} {vs : List Value} {n : Nat} (hh : A.handled = none) (hq : IsSeq s.heap "tuple" t vs) (hn : vs.length = n) :
    wpAny (md B) A (unpackItems (.ref t) n none) (fun l s' => l = vs ∧ Stp B s s') noE s := by
  have e : n = vs.toArray.size := by rw [List.size_toArray, hn]
  rw [e]
  refine wpSize (wpAny_unpackItems_tuple (Q := fun l s' => l = vs ∧ Rest s s' ∧ Heap.ExtBut s.heap.objs.size s.heap s'.heap) hh (seq_isTuple hq) fun h' hx => ⟨rfl, ⟨rfl, rfl, rfl⟩, hx⟩) fun l s' ⟨e, r, hx⟩ hz => ?_
  exact ⟨e, .extBut hx (fun o e => by rw [Heap.get?_none_of_le (Nat.le_refl _)] at e; cases e) hz, r⟩
/-- x, y, z = a, [], b: the list is the frame's own -/
theorem Ex.ownSw {x1 x2 x3 : Str} {elts : List Expr} {k k2 : Nat} {tpos vpos lpos pos : Pos} {e1 e3 : Expr} {P1 P3 : Pd B} {rest : List Stmt} {o : Out B} (hh : C.A.handled = none) (he1 : Ev C ρ μ e1 P1) (L1 : Lasts P1) (he3 : Ev C ρ μ e3 P3) (L3 : Lasts P3)
    (k1 : Sto C x1) (k2' : Sto C x2) (k3 : Sto C x3) (h' : ∀ a, μ a = none → Ex C (upd (upd (upd ρ x3 P3) x2 (pv (.ref a))) x1 P1) (updM μ a []) rest o)
    (hs : swapsWithSole [.Tuple elts k tpos] (.Tuple [e1, .List [] lpos, e3] k2 vpos) pos.line C.env = pure false := by rfl) (hw : swappedStores [.Tuple elts k tpos] (.Tuple [e1, .List [] lpos, e3] k2 vpos) C.env = pure (some [x1, x2, x3]) := by rfl)
    (s1 : starEach [e1, .List [] lpos, e3] C.env = (false, eval e1 C.env) :: starEach [.List [] lpos, e3] C.env := by rfl) (s2 : starEach [.List [] lpos, e3] C.env = (false, eval (.List [] lpos) C.env) :: starEach [e3] C.env := by rfl) (s3 : starEach [e3] C.env = (false, eval e3 C.env) :: starEach [] C.env := by rfl) :
    Ex C ρ μ (.Assign [.Tuple elts k tpos] (.Tuple [e1, .List [] lpos, e3] k2 vpos) pos :: rest) o := fun F s f => by
  refine wpAny_execs_cons ?_
  rw [exec_Assign_arm]
  refine wpAny_bind (wpAny_standAt ?_)
  rw [hs]
  refine wpAny_bind (wpAny_pure ?_)
  rw [if_neg (by decide)]
  refine wpAny_bind (wpAny_Tuple_spliced (wpMono ((EvM.cons (EvE.of he1) (EvM.cons EvE.new (EvM.cons (EvE.of he3) EvM.nil s3) s2) s1 : EvM s.heap.objs.size C ρ μ _ [P1, pnew s.heap.objs.size, P3]) F s vpos f (Nat.le_refl _)) fun vs s₁ ⟨p₁, h₁⟩ => ?_))
  obtain ⟨v1, v2, v3, rfl, q1, q2, q3⟩ := three_args h₁
  refine ⟨by simp [sizeLine], ?_⟩
  rw [hw]
  refine wpAny_bind (wpAny_pure ?_)
  unfold assignStores
  have f₁ := f.step p₁.p
  have pu : Pres B none' s₁.heap (s₁.heap.push { cls := .type "tuple", data := .seq [v1, v2, v3].toArray }) := .push _
  have f₂ := f₁.step pu
  have hsq : IsSeq (s₁.heap.push { cls := .type "tuple", data := .seq [v1, v2, v3].toArray }) "tuple" s₁.heap.objs.size [v1, v2, v3] := ⟨0, push_get rfl⟩
  refine wpAny_bind (wpAny_rule (wpAny_bind (wpMono (unpack_at (s := { s₁ with heap := s₁.heap.push { cls := .type "tuple", data := .seq [v1, v2, v3].toArray } }) hh hsq rfl) fun l s₂ ⟨e, p₂', r₂⟩ => ?_)))
  subst e
  have p₂ : Pres B none' (s₁.heap.push { cls := .type "tuple", data := .seq [v1, v2, v3].toArray }) s₂.heap := p₂'
  have pp := (p₁.p.trans pu).trans p₂
  obtain ⟨a, rfl, hF, hge, hq⟩ := (pnew (B := B) s.heap.objs.size).mono q2 (pu.trans p₂).any
  obtain ⟨n, ea⟩ := id hq
  have hfree : s.heap.get? a = none := Heap.get?_none_of_le hge
  have hμ : μ a = none := by
    cases hm : μ a with
    | none => rfl
    | some Qs => exact absurd (f.lt a (f.lst a Qs hm).1) (Nat.not_lt.mpr hge)
  have f₃ := f.grow (F' := fun b => F b ∨ b = a) pp (fun b q => q.imp id fun q => by rw [q]; exact hfree) (fun b q => .inl q) fun b q => q.elim (fun q => Nat.lt_of_lt_of_le (f.lt b q) pp.size) fun q => by rw [q]; exact Heap.lt_size ea
  have l₂ : ∀ b Qs, updM μ a [] b = some Qs → (F b ∨ b = a) ∧ C.h₀.objs.size ≤ b ∧ ∃ vs, IsSeq s₂.heap "list" b vs ∧ all2 (fun b => F b ∨ b = a) s₂.heap Qs vs := fun b Qs q => by
    unfold updM at q
    by_cases hb : b = a
    · rw [if_pos hb] at q; cases q; subst hb; exact ⟨.inr rfl, Nat.le_trans f.pres.size hge, [], hq, trivial⟩
    · rw [if_neg hb] at q; exact f₃.lst b Qs q
  have f₄ : Frm C (fun b => F b ∨ b = a) s₂.heap ρ (updM μ a []) := { f₃ with lst := l₂ }
  have n₁ : Nxt C F μ s.heap ρ (updM μ a []) s₂.heap (fun b => F b ∨ b = a) := ⟨fun b q => .inl q, fun b q => q.imp id fun q => by rw [q]; exact hge, f₄, fun b q => by
    unfold updM at q
    by_cases hb : b = a
    · right; rw [hb]; exact hge
    · rw [if_neg hb] at q; exact .inl q⟩
  have q1' := L1 _ _ _ q1 (fun b => F b ∨ b = a) s₂.heap
  have q3' := L3 _ _ _ q3 (fun b => F b ∨ b = a) s₂.heap
  have asg : AsgL C ρ (updM μ a []) ([x3, x2, x1].map fun n => fun v => bindName C.env n v) [P3, pv (.ref a), P1] (upd (upd (upd ρ x3 P3) x2 (pv (.ref a))) x1 P1) := AsgL.bind k3 (AsgL.bind k2' (AsgL.bind k1 AsgL.nil))
  refine wpAny_bind (wpMono (asg _ s₂ [v3, .ref a, v1] f₄ ⟨q3', rfl, q1', trivial⟩) fun _ s₃ ⟨r₃, f₅, p₃⟩ => ?_)
  refine wpAny_pure (wpMono (h' a hμ _ s₃ f₅) fun fl s₄ ⟨r₄, h₄⟩ => ⟨((p₁.r.trans ⟨r₂.1, r₂.2, r₂.3⟩).trans r₃).trans r₄, ?_⟩)
  exact n₁.out pp.any (Nxt.out p₃ (.same f₅) h₄)
end Mine
open PySem PySem.W PyProof.Rows
set_option Elab.async false
set_option maxRecDepth 100000
namespace Mine
variable {B : Bs}
/-- plain numbers -/
theorem nat0 (n : Nat) : (0 : Int) ≤ n := Int.natCast_nonneg n
theorem lt63 {n : Nat} (h : n ≤ 1000000) : (n : Int) < 2 ^ 63 := by omega
theorem leL {n : Nat} (h : n ≤ 1000000) : n ≤ sizeLine := Nat.le_trans h (by decide)
theorem leA {n : Nat} (h : n ≤ 1000) : n ≤ 100000 := Nat.le_trans h (by decide)
theorem rngL {α : Type} {n : Nat} {f : Nat → α} (h : n ≤ 1000000) : ((List.range n).map f).length ≤ sizeLine := by rw [List.length_map, List.length_range]; exact leL h
theorem rngP {α β : Type} {n : Nat} {f : Nat → α} {g : α → β} (h : n ≤ 1000000) : (((List.range n).map f).map g).length ≤ sizeLine := by rw [List.length_map]; exact rngL h
theorem mapA {α β : Type} {l : List α} {f : α → β} (h : l.length ≤ 1000) : (l.map f).length ≤ 100000 := by rw [List.length_map]; exact leA h
theorem mapL {α β : Type} {l : List α} {f : α → β} (h : l.length ≤ 1000000) : (l.map f).length ≤ sizeLine := by rw [List.length_map]; exact leL h
theorem mapP {α β γ : Type} {l : List α} {f : α → β} {g : β → γ} (h : l.length ≤ 1000000) : ((l.map f).map g).length ≤ sizeLine := by rw [List.length_map]; exact mapL h
theorem rints_len : ∀ (n : Nat) (x c : Int), (rints (B := B) x c n).length = n
  | 0, _, _ => rfl
  | n + 1, x, c => by rw [rints, List.length_cons, rints_len n]
theorem rintsL {n : Nat} {x c : Int} (h : n ≤ 1000000) : (rints (B := B) x c n).length ≤ sizeLine := by rw [rints_len]; exact leL h
theorem rng2L {α : Type} {n m : Nat} {f g : Nat → α} (h : n + m ≤ 1000000) : ((List.range n).map f).length + ((List.range m).map g).length ≤ sizeLine := by rw [List.length_map, List.length_range, List.length_map, List.length_range]; exact leL h
end Mine
open PySem PySem.W PyProof.Rows
set_option Elab.async false
set_option maxRecDepth 100000
set_option maxHeartbeats 8000000
namespace Mine
noncomputable abbrev noX : PySem.Expr := .Constant .none 0 ⟨0, 0, 0, 0⟩
noncomputable abbrev noSc : Scope := { kind := .module, names := [], isGenerator := false, isCoroutine := false, more := [] }
noncomputable abbrev noAr : Arguments := { posonlyargs := [], args := [], vararg := none, kwonlyargs := [], kw_defaults := [], kwarg := none, defaults := [] }
/-- a statement's target, its test, what stands in it, its scope, its name, its arguments -/
noncomputable def partsS : Stmt → PySem.Expr × PySem.Expr × List Stmt × Scope × Str × Arguments
  | .For t _ b _ _ => (t, noX, b, noSc, ⟨#[]⟩, noAr)
  | .While t b _ _ => (noX, t, b, noSc, ⟨#[]⟩, noAr)
  | .If _ b _ _ => (noX, noX, b, noSc, ⟨#[]⟩, noAr)
  | .FunctionDef n a b _ _ _ sc .. => (noX, noX, b, sc, n, a)
  | _ => (noX, noX, [], noSc, ⟨#[]⟩, noAr)
noncomputable def stO (i : Nat) : PySem.Expr × PySem.Expr × List Stmt × Scope × Str × Arguments := partsS (PySem.Challenge.pw_ph0023_02.main.body.getD i (.Pass ⟨0, 0, 0, 0⟩))
/-- the i-th def of the text, as it lies -/
noncomputable def fnO (i : Nat) (m : Str) (tk c : Nat) : Obj := ⟨.type "function", Option.none, .func { name := (stO i).2.2.2.2.1, qualname := (stO i).2.2.2.2.1, params := (stO i).2.2.2.2.2, body := .stmts (stO i).2.2.1, scope := (stO i).2.2.2.1, globals := 3, closure := [], defaults := .none, kwdefaults := .none, pyModule := .str m tk, code := .ref c }, #[]⟩
noncomputable def ent (P : Params) (x : Str) (t : Nat) (v : Value) : DictEntry := ⟨PyData.keyHash P x, .str x t, v⟩
noncomputable def k3 (P : Params) : Obj := ⟨(.type "dict"), Option.none, .dict #[ent P (Str.ofString "__name__") 165 (.str (Str.ofString "law_ph0023_02") 251), ent P (Str.ofString "__doc__") 166 .none, ent P (Str.ofString "__package__") 167 .none, ent P (Str.ofString "__loader__") 168 (.builtin "__main__.__loader__#opaque"), ent P (Str.ofString "__spec__") 169 .none, ent P (Str.ofString "__annotations__") 170 (.ref 6), ent P (Str.ofString "__builtins__") 171 (.ref 4), ent P (Str.ofString "__file__") 173 (.str (Str.ofString "/claim/cut.py") 172), ent P (Str.ofString "__cached__") 174 .none, ent P (Str.ofString "Error") 208 (.ref 24), ent P (Str.ofString "error_reply") 224 (.ref 37), ent P (Str.ofString "parse257") 235 (.ref 46), ent P (Str.ofString "search_reverse") 250 (.ref 53), ent P (Str.ofString "_law_sign") 259 (.ref 60), ent P (Str.ofString "_law_line") 270 (.ref 67), ent P (Str.ofString "_law_answers") 279 (.ref 74), ent P (Str.ofString "_law_prog") 289 (.ref 81), ent P (Str.ofString "_law_forth") 302 (.ref 88), ent P (Str.ofString "_law_back") 320 (.ref 95), ent P (Str.ofString "_law_ray") 326 (.ref 100), ent P (Str.ofString "law") 332 (.ref 105)] 21, #[]⟩
noncomputable def k23 (P : Params) : Obj := ⟨(.type "dict"), Option.none, .dict #[ent P (Str.ofString "__module__") 196 (.str (Str.ofString "cpy313.ftplib") 187), ent P (Str.ofString "__firstlineno__") 200 (.int 2 199), ent P (Str.ofString "__static_attributes__") 201 (.ref 22), ent P (Str.ofString "__weakref__") 203 (.ref 25), ent P (Str.ofString "__doc__") 204 .none] 3, #[]⟩
noncomputable def k24 (_ : Params) : Obj := ⟨(.type "type"), Option.none, .cls { name := (Str.ofString "Error"), bases := [(.type "Exception")], mro := [(.ref 24), (.type "Exception"), (.type "BaseException"), (.type "object")], ns := 23, qualname := (Str.ofString "Error"), hasDict := true, slotNames := [], subclasses := [(.ref 37)], abstract := false, collection := Option.none, hasDel := false }, #[(some (.ref 15)), Option.none, (some (.str (Str.ofString "Error") 189)), (some (.str (Str.ofString "Error") 197)), (some (.builtin "Exception.__new__")), (some (.bool true))]⟩
noncomputable def k36 (P : Params) : Obj := ⟨(.type "dict"), Option.none, .dict #[ent P (Str.ofString "__module__") 216 (.str (Str.ofString "cpy313.ftplib") 187), ent P (Str.ofString "__firstlineno__") 220 (.int 4 219), ent P (Str.ofString "__static_attributes__") 221 (.ref 35), ent P (Str.ofString "__doc__") 222 .none] 2, #[]⟩
noncomputable def k37 (_ : Params) : Obj := ⟨(.type "type"), Option.none, .cls { name := (Str.ofString "error_reply"), bases := [(.ref 24)], mro := [(.ref 37), (.ref 24), (.type "Exception"), (.type "BaseException"), (.type "object")], ns := 36, qualname := (Str.ofString "error_reply"), hasDict := true, slotNames := [], subclasses := [], abstract := false, collection := Option.none, hasDel := false }, #[(some (.ref 28)), Option.none, (some (.str (Str.ofString "error_reply") 209)), (some (.str (Str.ofString "error_reply") 217)), (some (.builtin "Exception.__new__")), (some (.bool true))]⟩
noncomputable def k45 (_ : Params) : Obj := ⟨(.type "code"), Option.none, .fields #[(.str (Str.ofString "parse257") 225), (.str (Str.ofString "parse257") 226), (.str (Str.ofString "/claim/cut.py") 227), (.int 6 0), (.int 1 0), (.int 0 0), (.int 0 0), (.int 3 0), (.ref 40), (.bool true), (.int 181 0), (.ref 41), .none, (.ref 42), (.ref 43), (.ref 44), (.int 233 0), (.int 6 0), (.str (Str.ofString "/claim/cut.py") 234)], #[]⟩
noncomputable def k46 (_ : Params) : Obj := fnO 3 (Str.ofString "cpy313.ftplib") 187 45
noncomputable def k52 (_ : Params) : Obj := ⟨(.type "code"), Option.none, .fields #[(.str (Str.ofString "search_reverse") 238), (.str (Str.ofString "search_reverse") 239), (.str (Str.ofString "/claim/cut.py") 240), (.int 24 0), (.int 3 0), (.int 0 0), (.int 0 0), (.int 3 0), (.ref 47), (.bool true), (.int 181 0), (.ref 48), .none, (.ref 49), (.ref 50), (.ref 51), (.int 248 0), (.int 24 0), (.str (Str.ofString "/claim/cut.py") 249)], #[]⟩
noncomputable def k53 (_ : Params) : Obj := fnO 5 (Str.ofString "cpy313.idlelib.searchengine") 236 52
noncomputable def k59 (_ : Params) : Obj := ⟨(.type "code"), Option.none, .fields #[(.str (Str.ofString "_law_sign") 253), (.str (Str.ofString "_law_sign") 254), (.str (Str.ofString "/claim/cut.py") 255), (.int 40 0), (.int 1 0), (.int 0 0), (.int 0 0), (.int 3 0), (.ref 54), (.bool true), (.int 181 0), (.ref 55), .none, (.ref 56), (.ref 57), (.ref 58), (.int 257 0), (.int 40 0), (.str (Str.ofString "/claim/cut.py") 258)], #[]⟩
noncomputable def k60 (_ : Params) : Obj := fnO 7 (Str.ofString "law_ph0023_02") 251 59
noncomputable def k66 (_ : Params) : Obj := ⟨(.type "code"), Option.none, .fields #[(.str (Str.ofString "_law_line") 260), (.str (Str.ofString "_law_line") 261), (.str (Str.ofString "/claim/cut.py") 262), (.int 42 0), (.int 1 0), (.int 0 0), (.int 0 0), (.int 3 0), (.ref 61), (.bool true), (.int 181 0), (.ref 62), .none, (.ref 63), (.ref 64), (.ref 65), (.int 268 0), (.int 42 0), (.str (Str.ofString "/claim/cut.py") 269)], #[]⟩
noncomputable def k67 (_ : Params) : Obj := fnO 8 (Str.ofString "law_ph0023_02") 251 66
noncomputable def k73 (_ : Params) : Obj := ⟨(.type "code"), Option.none, .fields #[(.str (Str.ofString "_law_answers") 271), (.str (Str.ofString "_law_answers") 272), (.str (Str.ofString "/claim/cut.py") 273), (.int 51 0), (.int 2 0), (.int 0 0), (.int 0 0), (.int 3 0), (.ref 68), (.bool true), (.int 181 0), (.ref 69), .none, (.ref 70), (.ref 71), (.ref 72), (.int 277 0), (.int 51 0), (.str (Str.ofString "/claim/cut.py") 278)], #[]⟩
noncomputable def k74 (_ : Params) : Obj := fnO 9 (Str.ofString "law_ph0023_02") 251 73
noncomputable def k80 (_ : Params) : Obj := ⟨(.type "code"), Option.none, .fields #[(.str (Str.ofString "_law_prog") 280), (.str (Str.ofString "_law_prog") 281), (.str (Str.ofString "/claim/cut.py") 282), (.int 57 0), (.int 1 0), (.int 0 0), (.int 0 0), (.int 3 0), (.ref 75), (.bool true), (.int 181 0), (.ref 76), .none, (.ref 77), (.ref 78), (.ref 79), (.int 287 0), (.int 57 0), (.str (Str.ofString "/claim/cut.py") 288)], #[]⟩
noncomputable def k81 (_ : Params) : Obj := fnO 10 (Str.ofString "law_ph0023_02") 251 80
noncomputable def k87 (_ : Params) : Obj := ⟨(.type "code"), Option.none, .fields #[(.str (Str.ofString "_law_forth") 290), (.str (Str.ofString "_law_forth") 291), (.str (Str.ofString "/claim/cut.py") 292), (.int 74 0), (.int 2 0), (.int 0 0), (.int 0 0), (.int 3 0), (.ref 82), (.bool true), (.int 181 0), (.ref 83), .none, (.ref 84), (.ref 85), (.ref 86), (.int 300 0), (.int 74 0), (.str (Str.ofString "/claim/cut.py") 301)], #[]⟩
noncomputable def k88 (_ : Params) : Obj := fnO 11 (Str.ofString "law_ph0023_02") 251 87
noncomputable def k94 (_ : Params) : Obj := ⟨(.type "code"), Option.none, .fields #[(.str (Str.ofString "_law_back") 303), (.str (Str.ofString "_law_back") 304), (.str (Str.ofString "/claim/cut.py") 305), (.int 79 0), (.int 3 0), (.int 0 0), (.int 0 0), (.int 3 0), (.ref 89), (.bool true), (.int 181 0), (.ref 90), .none, (.ref 91), (.ref 92), (.ref 93), (.int 318 0), (.int 79 0), (.str (Str.ofString "/claim/cut.py") 319)], #[]⟩
noncomputable def k95 (_ : Params) : Obj := fnO 12 (Str.ofString "law_ph0023_02") 251 94
noncomputable def k99 (_ : Params) : Obj := ⟨(.type "code"), Option.none, .fields #[(.str (Str.ofString "_law_ray") 321), (.str (Str.ofString "_law_ray") 322), (.str (Str.ofString "/claim/cut.py") 323), (.int 90 0), (.int 4 0), (.int 0 0), (.int 0 0), (.int 3 0), (.ref 96), (.bool true), (.int 181 0), (.ref 97), .none, .none, .none, (.ref 98), (.int 324 0), (.int 90 0), (.str (Str.ofString "/claim/cut.py") 325)], #[]⟩
noncomputable def k100 (_ : Params) : Obj := fnO 13 (Str.ofString "law_ph0023_02") 251 99
noncomputable def k104 (_ : Params) : Obj := ⟨(.type "code"), Option.none, .fields #[(.str (Str.ofString "law") 327), (.str (Str.ofString "law") 328), (.str (Str.ofString "/claim/cut.py") 329), (.int 109 0), (.int 1 0), (.int 0 0), (.int 0 0), (.int 3 0), (.ref 101), (.bool true), (.int 181 0), (.ref 102), .none, .none, .none, (.ref 103), (.int 330 0), (.int 109 0), (.str (Str.ofString "/claim/cut.py") 331)], #[]⟩
noncomputable def k105 (_ : Params) : Obj := fnO 14 (Str.ofString "law_ph0023_02") 251 104
noncomputable def KK (P : Params) : Frag := [(3, k3 P), (23, k23 P), (24, k24 P), (36, k36 P), (37, k37 P), (45, k45 P), (46, k46 P), (52, k52 P), (53, k53 P), (59, k59 P), (60, k60 P), (66, k66 P), (67, k67 P), (73, k73 P), (74, k74 P), (80, k80 P), (81, k81 P), (87, k87 P), (88, k88 P), (94, k94 P), (95, k95 P), (99, k99 P), (100, k100 P), (104, k104 P), (105, k105 P)]
noncomputable abbrev KA : List Nat := [3, 23, 24, 36, 37, 45, 46, 52, 53, 59, 60, 66, 67, 73, 74, 80, 81, 87, 88, 94, 95, 99, 100, 104, 105]
end Mine
open PySem PySem.W PyProof.Rows
set_option Elab.async false
set_option maxRecDepth 100000
set_option maxHeartbeats 1000000
set_option linter.unusedVariables false
set_option linter.unusedSimpArgs false
namespace Mine
variable {B : Bs}
noncomputable abbrev K1 (B : Bs) : Frag := KK B.w.params
/-- the name told from what is left -/
noncomputable def nm : List Nat → List Nat
  | [] => []
  | c :: r => if c = 34 then (match r with | d :: r' => if d = 34 then 34 :: nm r' else [] | [] => []) else c :: nm r
theorem nm_ne {c : Nat} (r : List Nat) (h : c ≠ 34) : nm (c :: r) = c :: nm r := by cases r <;> simp [nm, h]
theorem glob1 (HK : (K1 B).In B.hb) {x : Str} {v : Value} (e : nsIn (K1 B) mainGlobals x = some (some v)) : B.mg x = some v := glob_of HK e
theorem Ev.bltK {C : Cx B} {ρ : Rho B} {μ : Mu B} {K : Frag} (HK : K.In B.hb) {x : Str} {pos : Pos} {v : Value} (hk : C.env.kindOf x = some .globalImplicit) (e : nsIn K mainGlobals x = some Option.none) (hv : bootBuiltins x = some v) (hn : x ≠ "__name__") (hd : (x == ("__debug__" : Str)) = false) : Ev C ρ μ (.Name x pos) (pv v) :=
  Ev.blt hk (blt_of HK e) (by rw [B.hbl x hn]; exact hv) hd
theorem getElem_of_drop {l r : List Nat} {i c : Nat} (h : l.drop i = c :: r) : l[i]? = some c ∧ l.drop (i + 1) = r ∧ i < l.length := by
  refine ⟨?_, ?_, ?_⟩
  · have := congrArg (fun l => l[0]?) h; simpa using this
  · have := congrArg List.tail h; simpa using this
  · rcases Nat.lt_or_ge i l.length with q | q
    · exact q
    · rw [List.drop_of_length_le q] at h; cases h
theorem fn_parse {H : Option Value → Prop} (HK : (K1 B).In B.hb) (l : List Nat) (hl : l.length ≤ 100) : Fn B 1 (.ref 46) [ptx ([50, 53, 55, 32, 34] ++ l)] (ptx (nm l)) H := by
  refine Fn.introH (xs := [Str.ofString "resp"]) (get_of HK rfl rfl rfl rfl) ?_ rfl ?_
  · intro A h₀ hr hh hb
    have hz : ([50, 53, 55, 32, 34] ++ l).length ≤ sizeLine := by simp [sizeLine]; lia
    generalize hR : [50, 53, 55, 32, 34] ++ l = R
    rw [hR] at hz
    have hd5 : R.drop 5 = l := by rw [← hR]; rfl
    have hRl : R.length = l.length + 5 := by rw [← hR]; simp
    have s1 : slc R Option.none (some 3) = [50, 53, 55] := by rw [← hR]; rfl
    have s2 : slc R (some 3) (some 5) = [32, 34] := by rw [← hR]; rfl
    refine Ex.cons (Ex1.ite (c := false) (EvT.cmp (Ev.neS (i := [50, 53, 55]) (j := [50, 53, 55]) (s1 ▸ Ev.slS (a := Option.none) (b := some 3) (Ev.name rfl) trivial Ev.int trivial (by show (0:Int) ≤ 3; decide) hz) Ev.tx)) (fun h => nomatch h) fun _ => Ex.nil) ?_
    refine Ex.cons (Ex1.ite (c := false) (EvT.cmp (Ev.neS (i := [32, 34]) (j := [32, 34]) (s2 ▸ Ev.slS (a := some 3) (b := some 5) (Ev.name rfl) Ev.int Ev.int (by show (0:Int) ≤ 3; decide) (by show (0:Int) ≤ 5; decide) hz) Ev.tx)) (fun h => nomatch h) fun _ => Ex.nil) ?_
    refine Ex.cons (Ex1.assign (Ev.tx (l := [])) (.inl rfl)) ?_
    refine Ex.cons (Ex1.assign Ev.int (.inl rfl)) ?_
    refine Ex.cons (Ex1.assign (Ev.call (H := fun _ => True) (Ev.bltK HK rfl (by rfl) (by kernel_rfl) (by decide) (by decide)) (EvL.cons (Ev.name rfl) EvL.nil) (fn_lenS R (by lia)) (hr.deeper) trivial) (.inl rfl)) ?_
    refine Ex.cons (Ex1.while (Wh.wk (l := [("resp", ptx R), ("dirname", ptx []), ("i", pint 5), ("n", pint (R.length : Int))]) ⟨rfl, rfl, rfl, rfl, trivial⟩ (o := .next (al [("dirname", ptx (nm l))]) (fun _ => none)) ?_)) (Ex.leave (Ex1.ret (Ev.name rfl)))
    suffices main : ∀ (k i : Nat) (dn r : List Nat), R.length - i ≤ k → R.drop i = r → i ≤ R.length → dn.length ≤ i →
      Wh (mkC B A h₀ _ 46) (al [("resp", ptx R), ("dirname", ptx dn), ("i", pint (i : Int)), ("n", pint (R.length : Int))]) (fun _ => none) _ _ (.next (al [("dirname", ptx (dn ++ nm r))]) (fun _ => none)) from main R.length 5 [] l (by lia) hd5 (by lia) (by simp)
    intro k
    induction k with
    | zero =>
      intro i dn r hk hr' hi hdn
      have : i = R.length := by lia
      subst this
      rw [List.drop_length] at hr'
      subst hr'
      refine Wh.to (Wh.stop (EvT.cmp ?_)) (.next ⟨by simp only [nm, List.append_nil]; rfl, trivial⟩)
      have : cmpI .Lt (R.length : Int) (R.length : Int) = false := by simp [cmpI]
      rw [← this]
      repeat' (first | exact Ev.int | exact Ev.tx | exact Ev.none | exact Ev.bool | exact Ev.name rfl | refine Ev.add ?_ ?_ | refine Ev.sub ?_ ?_ | refine Ev.icmp ?_ ?_ | refine Ev.eqS ?_ ?_ | refine Ev.neS ?_ ?_)
    | succ k ih =>
      intro i dn r hk hr' hi hdn
      have hfit : (i : Int) < 2 ^ 63 := by have : R.length ≤ 105 := by lia
                                           lia
      cases r with
      | nil =>
        have : R.length ≤ i := by simpa using hr'
        refine Wh.to (Wh.stop (EvT.cmp ?_)) (.next ⟨by simp only [nm, List.append_nil]; rfl, trivial⟩)
        have : cmpI .Lt (i : Int) (R.length : Int) = false := by simp [cmpI]; lia
        rw [← this]
        repeat' (first | exact Ev.int | exact Ev.tx | exact Ev.none | exact Ev.bool | exact Ev.name rfl | refine Ev.add ?_ ?_ | refine Ev.sub ?_ ?_ | refine Ev.icmp ?_ ?_ | refine Ev.eqS ?_ ?_ | refine Ev.neS ?_ ?_)
      | cons c r =>
        obtain ⟨hc, hr2, hlt⟩ := getElem_of_drop hr'
        have hlt' : cmpI .Lt (i : Int) (R.length : Int) = true := by simp [cmpI]; lia
        have hi1 : ((i : Int) + 1) = ((i + 1 : Nat) : Int) := by lia
        by_cases h34 : c = 34
        · subst h34
          cases r with
          | nil =>
            have hlen : R.length ≤ i + 1 := by simpa using hr2
            refine Wh.to (Wh.brk (EvT.cmp ?_) (Ex.cons (Ex1.assign (Ev.ixS (Ev.name rfl) (Ev.name rfl) (by lia) hfit (by simpa using hc)) (.inl rfl)) (Ex.cons (Ex1.assign (Ev.add (Ev.name rfl) Ev.int) (.inl rfl))
              (Ex.leave (Ex1.ite (c := true) (EvT.cmp (Ev.eqS (i := [34]) (j := [34]) (Ev.name rfl) Ev.tx)) (fun _ => Ex.leave (Ex1.ite (c := true) (EvT.boolop (EvA.or_yes (EvT.cmp ?_))) (fun _ => Ex.leave Ex1.brk) (fun h => nomatch h))) (fun h => nomatch h)))))) (.next ⟨by simp [nm]; rfl, trivial⟩)
            · rw [← hlt']; repeat' (first | exact Ev.int | exact Ev.tx | exact Ev.none | exact Ev.bool | exact Ev.name rfl | refine Ev.add ?_ ?_ | refine Ev.sub ?_ ?_ | refine Ev.icmp ?_ ?_ | refine Ev.eqS ?_ ?_ | refine Ev.neS ?_ ?_)
            · have : cmpI .GtE ((i : Int) + 1) (R.length : Int) = true := by simp [cmpI]; lia
              rw [← this]; repeat' (first | exact Ev.int | exact Ev.tx | exact Ev.none | exact Ev.bool | exact Ev.name rfl | refine Ev.add ?_ ?_ | refine Ev.sub ?_ ?_ | refine Ev.icmp ?_ ?_ | refine Ev.eqS ?_ ?_ | refine Ev.neS ?_ ?_)
          | cons d r =>
            obtain ⟨hd, hr3, hlt2⟩ := getElem_of_drop hr2
            have hd' : R[((i : Int) + 1).toNat]? = some d := by rw [hi1]; simpa using hd
            have hge : cmpI .GtE ((i : Int) + 1) (R.length : Int) = false := by simp [cmpI]; lia
            by_cases hd34 : d = 34
            · subst hd34
              refine Wh.turn (EvT.cmp ?_) (Ex.to (Ex.cons (Ex1.assign (Ev.ixS (Ev.name rfl) (Ev.name rfl) (by lia) hfit (by simpa using hc)) (.inl rfl)) (Ex.cons (Ex1.assign (Ev.add (Ev.name rfl) Ev.int) (.inl rfl))
                (Ex.cons (Ex1.ite (c := true) (EvT.cmp (Ev.eqS (i := [34]) (j := [34]) (Ev.name rfl) Ev.tx)) (fun _ => Ex.cons (Ex1.ite (c := false) (EvT.boolop (EvA.or_no (EvT.cmp ?_) (EvA.or_no (EvT.cmp (Ev.neS (i := [34]) (j := [34]) (Ev.ixS (Ev.name rfl) (Ev.name rfl) (by lia) (by lia) hd') Ev.tx)) EvA.or_nil))) (fun h => nomatch h) (fun _ => Ex.nil)) (Ex.cons (Ex1.assign (Ev.add (Ev.name rfl) Ev.int) (.inl rfl)) Ex.nil)) (fun h => nomatch h))
                (Ex.cons (Ex1.assign (Ev.catS (Ev.name rfl) (Ev.name rfl) ?_) (.inl rfl)) Ex.nil))))
                (.next (l := [("resp", ptx R), ("dirname", ptx (dn ++ [34])), ("i", pint ((i + 2 : Nat) : Int)), ("n", pint (R.length : Int))]) ⟨rfl, rfl, ?_, rfl, trivial⟩)) ?_
              · rw [← hlt']; repeat' (first | exact Ev.int | exact Ev.tx | exact Ev.none | exact Ev.bool | exact Ev.name rfl | refine Ev.add ?_ ?_ | refine Ev.sub ?_ ?_ | refine Ev.icmp ?_ ?_ | refine Ev.eqS ?_ ?_ | refine Ev.neS ?_ ?_)
              · rw [← hge]; repeat' (first | exact Ev.int | exact Ev.tx | exact Ev.none | exact Ev.bool | exact Ev.name rfl | refine Ev.add ?_ ?_ | refine Ev.sub ?_ ?_ | refine Ev.icmp ?_ ?_ | refine Ev.eqS ?_ ?_ | refine Ev.neS ?_ ?_)
              · simp; lia
              · have : ((i : Int) + 1 + 1) = ((i + 2 : Nat) : Int) := by lia
                rw [← this]; rfl
              · have := ih (i + 2) (dn ++ [34]) r (by lia) (by rw [← hr3]) (by lia) (by simp; lia)
                simpa [nm] using this
            · have hne : ([d] != [34]) = true := by simpa using hd34
              refine Wh.to (Wh.brk (EvT.cmp ?_) (Ex.cons (Ex1.assign (Ev.ixS (Ev.name rfl) (Ev.name rfl) (by lia) hfit (by simpa using hc)) (.inl rfl)) (Ex.cons (Ex1.assign (Ev.add (Ev.name rfl) Ev.int) (.inl rfl))
                (Ex.leave (Ex1.ite (c := true) (EvT.cmp (Ev.eqS (i := [34]) (j := [34]) (Ev.name rfl) Ev.tx)) (fun _ => Ex.leave (Ex1.ite (c := true) (EvT.boolop (EvA.or_no (EvT.cmp ?_) (EvA.or_yes (EvT.cmp (hne ▸ Ev.neS (i := [d]) (j := [34]) (Ev.ixS (Ev.name rfl) (Ev.name rfl) (by lia) (by lia) hd') Ev.tx))))) (fun _ => Ex.leave Ex1.brk) (fun h => nomatch h))) (fun h => nomatch h)))))) (.next ⟨by simp [nm, hd34]; rfl, trivial⟩)
              · rw [← hlt']; repeat' (first | exact Ev.int | exact Ev.tx | exact Ev.none | exact Ev.bool | exact Ev.name rfl | refine Ev.add ?_ ?_ | refine Ev.sub ?_ ?_ | refine Ev.icmp ?_ ?_ | refine Ev.eqS ?_ ?_ | refine Ev.neS ?_ ?_)
              · rw [← hge]; repeat' (first | exact Ev.int | exact Ev.tx | exact Ev.none | exact Ev.bool | exact Ev.name rfl | refine Ev.add ?_ ?_ | refine Ev.sub ?_ ?_ | refine Ev.icmp ?_ ?_ | refine Ev.eqS ?_ ?_ | refine Ev.neS ?_ ?_)
        · have hne : ([c] == [34]) = false := by simpa using h34
          refine Wh.turn (EvT.cmp ?_) (Ex.to (Ex.cons (Ex1.assign (Ev.ixS (Ev.name rfl) (Ev.name rfl) (by lia) hfit (by simpa using hc)) (.inl rfl)) (Ex.cons (Ex1.assign (Ev.add (Ev.name rfl) Ev.int) (.inl rfl))
            (Ex.cons (Ex1.ite (c := false) (EvT.cmp (hne ▸ Ev.eqS (i := [c]) (j := [34]) (Ev.name rfl) Ev.tx)) (fun h => nomatch h) (fun _ => Ex.nil))
            (Ex.cons (Ex1.assign (Ev.catS (Ev.name rfl) (Ev.name rfl) ?_) (.inl rfl)) Ex.nil))))
            (.next (l := [("resp", ptx R), ("dirname", ptx (dn ++ [c])), ("i", pint ((i + 1 : Nat) : Int)), ("n", pint (R.length : Int))]) ⟨rfl, rfl, ?_, rfl, trivial⟩)) ?_
          · rw [← hlt']; repeat' (first | exact Ev.int | exact Ev.tx | exact Ev.none | exact Ev.bool | exact Ev.name rfl | refine Ev.add ?_ ?_ | refine Ev.sub ?_ ?_ | refine Ev.icmp ?_ ?_ | refine Ev.eqS ?_ ?_ | refine Ev.neS ?_ ?_)
          · simp; lia
          · rw [← hi1]; rfl
          · have := ih (i + 1) (dn ++ [c]) r (by lia) hr2 (by lia) (by simp; lia)
            have e : nm (c :: r) = c :: nm r := nm_ne r h34
            rw [e]
            simpa using this
  · exact bind1 fun a => rfl
noncomputable abbrev excMro : List Value := [.type "Exception", .type "BaseException", .type "object"]
theorem own1 (HK : (K1 B).In B.hb) : OwnClsQ (Str.ofString "error_reply") 37 excMro "Exception.__new__" B.mg B.hb where
  bound := glob1 HK rfl
  obj := ⟨_, 36, _, _, _, _, _, _, _, _, _, _, _, _, _, _, _, HK 37 _ rfl, ns_of_K HK rfl rfl, quiet_of (by kernel_rfl), .own (HK 24 _ rfl) (ns_of_K HK rfl rfl) (quiet_of (by kernel_rfl)) .base⟩
theorem fn_parseX (HK : (K1 B).In B.hb) (R : List Nat) (hR : slc R none (some 3) ≠ [50, 53, 55]) (hz : R.length ≤ sizeLine) : FnX B 1 (.ref 46) (mkS R) 37 := by
  refine FnX.intro (x := Str.ofString "resp") (y := Str.ofString "error_reply") (get_of HK rfl rfl rfl rfl) ?_ (own1 HK).own PySem.F.excBase_Exception ?_
  · intro A h₀ hr hh hb
    have e : (slc R none (some 3) != [50, 53, 55]) = true := by simpa using hR
    exact EvT.cmp (e ▸ Ev.neS (i := slc R none (some 3)) (j := [50, 53, 55]) (Ev.slS (a := Option.none) (b := some 3) (Ev.name rfl) trivial Ev.int trivial (by show (0:Int) ≤ 3; decide) hz) Ev.tx)
  · intro v; rfl
theorem fn_parse0 {H : Option Value → Prop} (HK : (K1 B).In B.hb) (R : List Nat) (h1 : slc R none (some 3) = [50, 53, 55]) (h2 : slc R (some 3) (some 5) ≠ [32, 34]) (hz : R.length ≤ sizeLine) : Fn B 1 (.ref 46) [ptx R] (ptx []) H := by
  refine Fn.introH (xs := [Str.ofString "resp"]) (get_of HK rfl rfl rfl rfl) ?_ rfl ?_
  · intro A h₀ hr hh hb
    refine Ex.cons (Ex1.ite (c := false) (EvT.nec (i := slc R none (some 3)) (j := [50, 53, 55]) (Ev.slS (a := Option.none) (b := some 3) (Ev.name rfl) trivial Ev.int trivial (by show (0:Int) ≤ 3; decide) hz) Ev.tx (by rw [h1]; rfl)) (fun h => nomatch h) fun _ => Ex.nil) ?_
    exact Ex.leave (Ex1.ite (c := true) (EvT.nec (i := slc R (some 3) (some 5)) (j := [32, 34]) (Ev.slS (a := some 3) (b := some 5) (Ev.name rfl) Ev.int Ev.int (by show (0:Int) ≤ 3; decide) (by show (0:Int) ≤ 5; decide) hz) Ev.tx (by simpa using h2)) (fun _ => Ex.leave (Ex1.ret Ev.tx)) (fun h => nomatch h))
  · exact bind1 fun a => rfl
end Mine
open PySem PySem.W PyProof.Rows
set_option Elab.async false
set_option maxRecDepth 100000
set_option maxHeartbeats 1000000
set_option linter.unusedVariables false
set_option linter.unusedSimpArgs false
namespace Mine
variable {B : Bs}
/-- how far off the next mark is, or the end -/
noncomputable def fq : List Nat → Nat
  | [] => 0
  | c :: r => if c = 34 then 0 else fq r + 1
noncomputable def pane (l : List Nat) (f : Nat) : Bool := (l.drop (f + 1)).take 1 == [34]
noncomputable def spanOf (ax : Nat) (l : List Nat) (f : Nat) : Nat × Nat := (if pane l f && decide (ax = 1) then f + 1 else f, if pane l f && decide (ax = 0) then f + 2 else f + 1)
noncomputable def fnd (ax : Nat) (l : List Nat) (st : Nat) : Option (Nat × Nat) :=
  let f := st + fq (l.drop st)
  if l.length ≤ f then none else some (spanOf ax l f)
theorem fq_le : ∀ l, fq l ≤ l.length
  | [] => Nat.le_refl _
  | c :: r => by
    have := fq_le r
    unfold fq
    split
    · omega
    · simp; omega
noncomputable def q1 (l c : Nat) : Option Str := if l = 59 then some (Str.ofString "_law_prog.<locals>.search") else if l = 71 then some (Str.ofString "_law_prog.<locals>.<lambda>") else some (Str.ofString "_law_prog.<locals>.search.<locals>.<lambda>")
structure W1 (B : Bs) : Prop where
  K : (K1 B).In B.hb
  P0 : B.P0 = 76
  qual : B.qual = q1
noncomputable def phit (a b : Int) : Pd B := pattr "span" (pcall 1 [] (pd (.tup [.int a, .int b])))
noncomputable def pres (o : Option (Nat × Nat)) : Pd B := match o with
  | none => pnone
  | some (a, b) => phit a b
noncomputable def stmtsOf : FuncBody → List Stmt
  | .stmts b => b
  | _ => []
noncomputable def bodyOf (K : Frag) (a : Addr) : List Stmt := match K.lookup a with
  | some ⟨_, _, .func fd, _⟩ => stmtsOf fd.body
  | _ => []
noncomputable def innerBody : List Stmt → List Stmt
  | s :: _ => (partsS s).2.2.1
  | [] => []
noncomputable def innerScope : List Stmt → Scope
  | s :: _ => (partsS s).2.2.2.1
  | [] => { kind := .module, names := [] , isGenerator := false, isCoroutine := false, more := [] }
theorem drop_at {l r : List Nat} {f c : Nat} (h : l.drop f = c :: r) : l[f]? = some c ∧ l.drop (f + 1) = r ∧ f < l.length := getElem_of_drop h
theorem slc_one {l : List Nat} {f : Nat} : slc l (some ((f : Int) + 1)) (some ((f : Int) + 2)) = (l.drop (f + 1)).take 1 := by
  unfold slc; simp only [Option.elim]
  rw [show ((f : Int) + 1).toNat = f + 1 from by lia, show ((f : Int) + 2).toNat = f + 2 from by lia, List.drop_take]
  congr 1; lia
noncomputable abbrev sC (B : Bs) (A : Around) (h₀ : Heap) (ps : Arguments) (bd : FuncBody) (clos : List (Str × Addr)) (dV pm doc ctv : Value) (c' a : Addr) : Cx B :=
  mkC B A h₀ (mkFd (Str.ofString "search") (Str.ofString "_law_prog.<locals>.search") ps bd (innerScope (bodyOf (K1 B) 81)) clos dV pm doc ctv c') a
noncomputable abbrev axR (ax : Nat) : Rho B := al [("axis", pint (ax : Int))]
theorem cmpE {a b : Nat} : cmpI .Eq (a : Int) (b : Int) = decide (a = b) := by
  by_cases h : a = b
  · simp [cmpI, h]
  · have : ¬ (a : Int) = b := by lia
    simp [cmpI, h, this]
theorem search_body (W : W1 B) {A : Around} {h₀ : Heap} {ps : Arguments} {bd : FuncBody} {clos : List (Str × Addr)} {dV pm doc ctv : Value} {c' a : Addr} (hr : Room 1 A) (hh : A.handled = none) (hb : Base B h₀)
    (hC : Cod (sC B A h₀ ps bd clos dV pm doc ctv c' a) 0) (ax : Nat) (l : List Nat) (st : Nat) (hl : l.length ≤ 100) (hst : st ≤ l.length) :
    Ex (sC B A h₀ ps bd clos dV pm doc ctv c' a) (updL (axR ax) [Str.ofString "chars", Str.ofString "start"] [ptx l, pint (st : Int)]) (fun _ => none) (innerBody (bodyOf (K1 B) 81)) (.ret (pres (fnd ax l st))) := by
  have hz : l.length ≤ sizeLine := Nat.le_trans hl (by decide)
  refine Ex.cons (Ex1.assign (Ev.name rfl) (.inl rfl)) ?_
  refine Ex.cons (Ex1.while (Wh.wk (l := [("axis", pint (ax : Int)), ("chars", ptx l), ("found", pint (st : Int))]) ⟨rfl, rfl, rfl, trivial⟩ (o := .next (al [("axis", pint (ax : Int)), ("chars", ptx l), ("found", pint ((st + fq (l.drop st) : Nat) : Int))]) (fun _ => none)) ?_)) ?_
  · suffices main : ∀ (k f : Nat), l.length - f ≤ k → f ≤ l.length →
      Wh (sC B A h₀ ps bd clos dV pm doc ctv c' a) (al [("axis", pint (ax : Int)), ("chars", ptx l), ("found", pint (f : Int))]) (fun _ => none) _ _ (.next (al [("axis", pint (ax : Int)), ("chars", ptx l), ("found", pint ((f + fq (l.drop f) : Nat) : Int))]) (fun _ => none)) from main l.length st (by lia) hst
    intro k
    induction k with
    | zero =>
      intro f hk hf
      have e : l.drop f = [] := List.drop_of_length_le (by lia)
      rw [e]
      exact Wh.stop (EvT.boolop (EvA.and_no (EvT.ic (Ev.name rfl) (Ev.len W.K (Ev.name rfl) (by lia) (hr.deeper.le (by decide)) rfl (by rfl)) (cmp_nlt (by lia)))))
    | succ k ih =>
      intro f hk hf
      cases e : l.drop f with
      | nil =>
        have : l.length ≤ f := by simpa using e
        exact Wh.stop (EvT.boolop (EvA.and_no (EvT.ic (Ev.name rfl) (Ev.len W.K (Ev.name rfl) (by lia) (hr.deeper.le (by decide)) rfl (by rfl)) (cmp_nlt (by lia)))))
      | cons c r =>
        obtain ⟨hc, hr2, hlt⟩ := drop_at e
        have hf63 : (f : Int) < 2 ^ 63 := by lia
        by_cases hA : c = 34
        · have hfe : fq (c :: r) = 0 := by simp [fq, hA]
          rw [hfe, Nat.add_zero]
          exact Wh.stop (EvT.boolop (EvA.and_yes (EvT.ic (Ev.name rfl) (Ev.len W.K (Ev.name rfl) (by lia) (hr.deeper.le (by decide)) rfl (by rfl)) (cmp_lt hlt)) (EvA.and_no (EvT.nec (i := [c]) (j := [34]) (Ev.ixS (Ev.name rfl) (Ev.name rfl) (by lia) hf63 (by simpa using hc)) Ev.tx (by simp [hA])))))
        · have hfe : fq (c :: r) = fq r + 1 := by simp [fq, hA]
          rw [hfe]
          refine Wh.turn (ρ' := al [("axis", pint (ax : Int)), ("chars", ptx l), ("found", pint ((f + 1 : Nat) : Int))]) (μ' := fun _ => none) (EvT.boolop (EvA.and_yes (EvT.ic (Ev.name rfl) (Ev.len W.K (Ev.name rfl) (by lia) (hr.deeper.le (by decide)) rfl (by rfl)) (cmp_lt hlt)) (EvA.and_yes (EvT.nec (i := [c]) (j := [34]) (Ev.ixS (Ev.name rfl) (Ev.name rfl) (by lia) hf63 (by simpa using hc)) Ev.tx (by simpa using hA)) EvA.and_nil))) ?_ ?_
          · exact Ex.to (Ex.cons (Ex1.augI (i := (f : Int)) (j := 1) rfl Ev.int (.inl rfl)) Ex.nil) (.next (l := [("axis", pint (ax : Int)), ("chars", ptx l), ("found", pint ((f + 1 : Nat) : Int))]) ⟨rfl, rfl, by rfl, trivial⟩)
          · have := ih (f + 1) (by lia) (by lia)
            rw [hr2] at this
            rw [show f + (fq r + 1) = f + 1 + fq r from by lia]
            exact this
  · generalize he : st + fq (l.drop st) = e
    have hel : e ≤ l.length := by have := fq_le (l.drop st); simp at this; lia
    have hf : fnd ax l st = if l.length ≤ e then none else some (spanOf ax l e) := by unfold fnd; simp only [he]
    rw [hf]
    by_cases hE : l.length ≤ e
    · rw [if_pos hE]
      exact Ex.leave (Ex1.ite (c := true) (EvT.ic (Ev.name rfl) (Ev.len W.K (Ev.name rfl) (by lia) (hr.deeper.le (by decide)) rfl (by rfl)) (by simp [cmpI]; lia)) (fun _ => Ex.leave (Ex1.ret Ev.none)) (fun h => nomatch h))
    · rw [if_neg hE]
      refine Ex.cons (Ex1.ite (c := false) (EvT.ic (Ev.name rfl) (Ev.len W.K (Ev.name rfl) (by lia) (hr.deeper.le (by decide)) rfl (by rfl)) (by simp [cmpI]; lia)) (fun h => nomatch h) (fun _ => Ex.nil)) ?_
      refine Ex.cons (Ex1.assign (P := pbool (pane l e)) (Ev.eqc (i := (l.drop (e + 1)).take 1) (j := [34]) (Ev.castS (Ev.slS (a := some ((e : Int) + 1)) (b := some ((e : Int) + 2)) (Ev.name rfl) (Ev.add (Ev.name rfl) Ev.int) (Ev.add (Ev.name rfl) Ev.int) (by show (0 : Int) ≤ e + 1; lia) (by show (0 : Int) ≤ e + 2; lia) hz) slc_one) Ev.tx rfl) (.inl rfl)) ?_
      unfold spanOf
      generalize pane l e = pn
      generalize hb1 : (if (pn && decide (ax = 1)) = true then e + 1 else e) = b1
      generalize hb2 : (if (pn && decide (ax = 0)) = true then e + 2 else e + 1) = b2
      refine Ex.cons (Ex1.assign (P := pint (b1 : Int)) (Ev.ite (c := pn && decide (ax = 1)) (EvT.and2 (EvT.bool (Ev.name rfl)) fun _ => EvT.ic (Ev.name rfl) Ev.int (cmpE (b := 1))) (fun h => ?_) (fun h => ?_)) (.inr ⟨rfl, rfl⟩)) ?_
      · rw [if_pos h] at hb1; exact Ev.castI (Ev.add (Ev.name rfl) Ev.int) (by lia)
      · rw [if_neg (by rw [h]; decide)] at hb1; exact Ev.castI (Ev.name rfl) (by lia)
      refine Ex.cons (Ex1.assign (P := pint (b2 : Int)) (Ev.ite (c := pn && decide (ax = 0)) (EvT.and2 (EvT.bool (Ev.name rfl)) fun _ => EvT.ic (Ev.name rfl) Ev.int (cmpE (b := 0))) (fun h => ?_) (fun h => ?_)) (.inr ⟨rfl, rfl⟩)) ?_
      · rw [if_pos h] at hb2; exact Ev.castI (Ev.add (Ev.name rfl) Ev.int) (by lia)
      · rw [if_neg (by rw [h]; decide)] at hb2; exact Ev.castI (Ev.add (Ev.name rfl) Ev.int) (by lia)
      refine Ex.attrRet (EvF.lam hC (by rw [W.qual]; kernel_rfl)) (.inl rfl) (fun a' => Ev.lam hC (by rw [W.qual]; kernel_rfl)) (fun F h w a' f hp => ?_) fn_noSpan
      refine Frm.made (C := sC B A h₀ ps bd clos dV pm doc ctv c' a) (ρ₀ := al [("first", pint (b1 : Int)), ("behind", pint (b2 : Int))]) (xs := []) (Ps' := []) f hp ?_ rfl ?_ rfl rfl rfl ?_ ?_ rfl ?_ ?_
      · rw [W.qual]; kernel_rfl
      · decide
      · intro x P hx
        unfold al at hx
        by_cases h1 : x = Str.ofString "first"
        · rw [if_pos h1] at hx; cases hx; subst h1; exact ⟨rfl, rfl, lasts_int⟩
        · rw [if_neg h1] at hx
          unfold al at hx
          by_cases h2 : x = Str.ofString "behind"
          · rw [if_pos h2] at hx; cases hx; subst h2; exact ⟨rfl, rfl, lasts_int⟩
          · rw [if_neg h2] at hx; simp [al] at hx
      · intro x hx; cases hx
      · intro F s A dV pm doc ctv c' vs hlt hd hv
        have hd' : dV = .none := hd
        subst hd'
        cases vs with
        | nil => exact ⟨[], trivial, fun Q hQ => wpAny_pure hQ⟩
        | cons _ _ => exact hv.elim
      · intro A h₀ a dV pm doc ctv c' hr hh hb _
        exact Ev.tuple (ds := [.int b1, .int b2]) (EvL.cons (Ev.name rfl) (EvL.cons (Ev.name rfl) EvL.nil))
end Mine
open PySem PySem.W PyProof.Rows
set_option Elab.async false
set_option maxRecDepth 100000
set_option maxHeartbeats 1000000
set_option linter.unusedVariables false
set_option linter.unusedSimpArgs false
namespace Mine
variable {B : Bs}
noncomputable abbrev IxS := { x : List Nat × Nat // x.1.length ≤ 100 ∧ x.2 ≤ x.1.length }
noncomputable def psearch (ax : Nat) : Pd B := pall fun x : IxS => pand (pcall 1 [ptx x.1.1] (pres (fnd ax x.1.1 0))) (pcall 1 [ptx x.1.1, pint (x.1.2 : Int)] (pres (fnd ax x.1.1 x.1.2)))
noncomputable abbrev pprog (ax : Nat) : Pd B := pattr (Str.ofString "search") (psearch ax)
theorem fn_prog (W : W1 B) (ax : Nat) : Fn B 1 (.ref 81) [pint (ax : Int)] (pprog ax) := by
  refine Fn.intro (xs := [Str.ofString "axis"]) (get_of W.K rfl rfl rfl rfl) ?_ rfl ?_
  · intro A h₀ hr hh hb
    have hC : ∀ fd a, fd.code = .ref 80 → Cod (mkC B A h₀ fd a) 1 := fun fd a e => ⟨80, 76, e, codeHd_of_K (fun a o e => hb.keep _ _ (W.K a o e)) (by kernel_rfl), W.P0 ▸ hb.tab, .inl W.P0.symm⟩
    refine Ex.cons (Ex1.def0 (hC _ _ rfl) (.inl rfl) _ rfl (by rw [W.qual]; kernel_rfl)) ?_
    refine Ex.attrRet (Q := psearch ax) (EvF.lam (hC _ _ rfl) (by rw [W.qual]; kernel_rfl)) (.inl rfl) (fun a => Ev.name rfl) ?_ fn_noSearch
    intro F h w a f hp ⟨⟨l, st⟩, hl, hst⟩
    dsimp only at hl hst
    constructor
    · refine Frm.made (ρ₀ := axR ax) (xs := [Str.ofString "chars", Str.ofString "start"]) (Ps' := [ptx l, pint ((0 : Nat) : Int)]) f hp ?_ rfl ?_ rfl rfl rfl ?_ ?_ rfl ?_ ?_
      · rw [W.qual]; kernel_rfl
      · decide
      · intro x P hx
        unfold axR al at hx
        by_cases h1 : x = Str.ofString "axis"
        · rw [if_pos h1] at hx; cases hx; subst h1; exact ⟨rfl, rfl, lasts_int⟩
        · rw [if_neg h1] at hx; simp [al] at hx
      · decide
      · intro F s A dV pm doc ctv c' vs hlt hd hv
        obtain ⟨v, rfl, hv'⟩ := one_arg hv
        obtain ⟨t, tk, n, rfl, _, g⟩ := hd
        refine ⟨[v, .int 0 tk], ⟨hv', of_int, trivial⟩, fun Q hQ => ?_⟩
        refine wpAny_bind (m := seqItems? (.ref t)) ?_
        exact wpAny_bind (wpAny_load g (wpAny_pure (wpAny_pure hQ)))
      · intro A h₀ a dV pm doc ctv c' hr hh hb hC
        exact search_body W hr hh hb (hC 0 rfl) ax l 0 hl (by lia)
    · refine Frm.made (ρ₀ := axR ax) (xs := [Str.ofString "chars", Str.ofString "start"]) (Ps' := [ptx l, pint (st : Int)]) f hp ?_ rfl ?_ rfl rfl rfl ?_ ?_ rfl ?_ ?_
      · rw [W.qual]; kernel_rfl
      · decide
      · intro x P hx
        unfold axR al at hx
        by_cases h1 : x = Str.ofString "axis"
        · rw [if_pos h1] at hx; cases hx; subst h1; exact ⟨rfl, rfl, lasts_int⟩
        · rw [if_neg h1] at hx; simp [al] at hx
      · decide
      · intro F s A dV pm doc ctv c' vs hlt hd hv
        obtain ⟨v, v2, rfl, hv', hv2⟩ := two_args hv
        obtain ⟨t, tk, n, rfl, _, g⟩ := hd
        refine ⟨[v, v2], hv, fun Q hQ => ?_⟩
        refine wpAny_bind (m := seqItems? (.ref t)) ?_
        exact wpAny_bind (wpAny_load g (wpAny_pure (wpAny_pure hQ)))
      · intro A h₀ a dV pm doc ctv c' hr hh hb hC
        exact search_body W hr hh hb (hC 0 rfl) ax l st hl hst
  · exact bind1 fun a => rfl
end Mine
open PySem PySem.W PyProof.Rows
set_option Elab.async false
set_option maxRecDepth 100000
set_option maxHeartbeats 1000000
set_option linter.unusedVariables false
set_option linter.unusedSimpArgs false
namespace Mine
variable {B : Bs}
theorem pane_lt {l : List Nat} {f : Nat} (h : pane l f = true) : f + 1 < l.length := by
  unfold pane at h
  rcases Nat.lt_or_ge (f + 1) l.length with q | q
  · exact q
  · rw [List.drop_of_length_le q] at h; simp at h
theorem fnd_spec {ax : Nat} {l : List Nat} {st i j : Nat} (h : fnd ax l st = some (i, j)) (hst : st ≤ l.length) : st ≤ i ∧ st < (if i = j then j + 1 else j) ∧ (if i = j then j + 1 else j) ≤ l.length := by
  unfold fnd at h
  simp only at h
  split at h
  · cases h
  · rename_i hne
    have hsf : st ≤ st + fq (l.drop st) := Nat.le_add_right _ _
    generalize st + fq (l.drop st) = f at h hne hsf
    simp only [Option.some.injEq, spanOf, Prod.mk.injEq] at h
    obtain ⟨hi, hj⟩ := h
    cases hp : pane l f with
    | false => rw [hp] at hi hj; simp at hi hj; subst hi; subst hj; simp; lia
    | true =>
      have := pane_lt hp
      rw [hp] at hi hj
      simp only [Bool.true_and, decide_eq_true_eq] at hi hj
      split at hi <;> split at hj <;> subst hi <;> subst hj <;> simp <;> lia
noncomputable def srl (ax : Nat) (l : List Nat) (col : Nat) : Nat → Nat → Option (Nat × Nat) → Option (Nat × Nat)
  | 0, _, found => found
  | n + 1, st, found => match fnd ax l st with
    | none => found
    | some (i, j) => if i < col ∧ j ≤ col then srl ax l col n (if i = j then j + 1 else j) (some (i, j)) else found
noncomputable def sr (ax : Nat) (l : List Nat) (col : Nat) : Option (Nat × Nat) := srl ax l col (l.length + 1) 0 none
theorem truthy_none {F : Addr → Prop} {A : Around} {s : Shared} {v : Value} (h : (pnone (B := B)).p F s.heap v) : wpAny (md B) A (truthy v) (fun b s' => Stp B s s' ∧ b = false) noE s := by
  rw [none_of h]; exact wpAny_pure ⟨.refl, rfl⟩
theorem fn_sr (W : W1 B) (ax : Nat) (l : List Nat) (col : Nat) (hl : l.length ≤ 100) : Fn B 2 (.ref 53) [pprog ax, ptx l, pint (col : Int)] (pres (sr ax l col)) := by
  refine Fn.intro (xs := [Str.ofString "prog", Str.ofString "chars", Str.ofString "col"]) (get_of W.K rfl rfl rfl rfl) ?_ rfl ?_
  · intro A h₀ hr hh hb
    have s1 : ∀ F h v, (psearch (B := B) ax).p F h v → (pcall (B := B) 1 [ptx l] (pres (fnd ax l 0))).p F h v := fun F h v x => (x ⟨(l, 0), hl, Nat.zero_le _⟩).1
    have s2 : ∀ st, st ≤ l.length → ∀ F h v, (psearch (B := B) ax).p F h v → (pcall (B := B) 1 [ptx l, pint (st : Int)] (pres (fnd ax l st))).p F h v := fun st hst F h v x => (x ⟨(l, st), hl, hst⟩).2
    refine Ex.cons (Ex1.assign (Ev.callA (Ev.name rfl) s1 (EvL.cons (Ev.name rfl) EvL.nil) hr.deeper hh fn_noSearch) (.inl rfl)) ?_
    unfold sr
    cases h0 : fnd ax l 0 with
    | none =>
      have e : srl ax l col (l.length + 1) 0 none = none := by unfold srl; rw [h0]
      rw [e]
      exact Ex.leave (Ex1.ite (c := true) (EvT.not (b := false) (EvT.val (P := pnone) (Ev.name rfl) fun F s v f h => truthy_none h)) (fun _ => Ex.leave (Ex1.ret Ev.none)) (fun h => nomatch h))
    | some ij =>
      obtain ⟨i, j⟩ := ij
      refine Ex.cons (Ex1.ite (c := false) (EvT.not (b := true) (EvT.val (P := phit i j) (Ev.name rfl) fun F s v f h => truthy_attr h)) (fun h => nomatch h) (fun _ => Ex.nil)) ?_
      refine Ex.cons (Ex1.assign Ev.none (.inl rfl)) ?_
      refine Ex.cons (Ex1.assignT (Ev.callA (Q := pcall 1 [] (pd (.tup [.int i, .int j]))) (Ev.name rfl) (fun F h v x => x) EvL.nil hr.deeper hh fn_noSpan) (Asg.tuple hh (AsgL.cons (Asg.name (.inl rfl)) (AsgL.cons (Asg.name (.inl rfl)) AsgL.nil)))) ?_
      refine Ex.cons (Ex1.while (Wh.wk (l := [("prog", pprog ax), ("chars", ptx l), ("col", pint (col : Int)), ("m", phit i j), ("found", pres none), ("i", pint (i : Int)), ("j", pint (j : Int))]) ⟨rfl, rfl, rfl, rfl, rfl, rfl, rfl, trivial⟩
        (o := .next (al [("found", pres (srl ax l col (l.length + 1) 0 none))]) (fun _ => none)) ?_)) (Ex.leave (Ex1.ret (Ev.name rfl)))
      suffices main : ∀ (n st : Nat) (found : Option (Nat × Nat)) (i j : Nat), fnd ax l st = some (i, j) → st ≤ l.length → l.length - st < n →
        Wh (mkC B A h₀ _ 53) (al [("prog", pprog ax), ("chars", ptx l), ("col", pint (col : Int)), ("m", phit i j), ("found", pres found), ("i", pint (i : Int)), ("j", pint (j : Int))]) (fun _ => none) _ _ (.next (al [("found", pres (srl ax l col n st found))]) (fun _ => none)) from
        main (l.length + 1) 0 none i j h0 (Nat.zero_le _) (by lia)
      intro n
      induction n with
      | zero => intro st found i j h hst hn; lia
      | succ n ih =>
        intro st found i j h hst hn
        obtain ⟨g1, g2, g3⟩ := fnd_spec h hst
        have e : srl ax l col (n + 1) st found = if i < col ∧ j ≤ col then srl ax l col n (if i = j then j + 1 else j) (some (i, j)) else found := by
          conv => lhs; unfold srl
          rw [h]
        rw [e]
        have le : ∀ {a b : Nat}, a ≤ b → cmpI .LtE (a : Int) (b : Int) = true := fun h => by simp [cmpI]; lia
        have nle : ∀ {a b : Nat}, ¬ a ≤ b → cmpI .LtE (a : Int) (b : Int) = false := fun h => by simp [cmpI]; lia
        by_cases hc : i < col ∧ j ≤ col
        · rw [if_pos hc]
          generalize hs' : (if i = j then j + 1 else j) = st'
          have hst' : st' ≤ l.length := hs' ▸ g3
          have hn' : l.length - st' < n := by have : st < st' := hs' ▸ g2
                                              lia
          cases h2 : fnd ax l st' with
          | none =>
            have e2 : srl ax l col n st' (some (i, j)) = some (i, j) := by cases n <;> simp [srl, h2]
            rw [e2]
            refine Wh.to (Wh.brk (EvT.boolop (EvA.and_yes (EvT.ic (Ev.name rfl) (Ev.name rfl) (cmp_lt hc.1)) (EvA.and_yes (EvT.ic (Ev.name rfl) (Ev.name rfl) (le hc.2)) EvA.and_nil))) ?_) (.next (ρ := upd (al [("prog", pprog ax), ("chars", ptx l), ("col", pint (col : Int)), ("found", phit i j), ("j", pint (st' : Int))]) (Str.ofString "m") (pres none)) ⟨rfl, trivial⟩)
            refine Ex.cons (Ex1.assign (Ev.name rfl) (.inl rfl)) ?_
            refine Ex.cons (Ex1.ite (c := decide (i = j)) (o := .next (al [("prog", pprog ax), ("chars", ptx l), ("col", pint (col : Int)), ("found", phit i j), ("j", pint (st' : Int))]) (fun _ => none)) (EvT.ic (Ev.name rfl) (Ev.name rfl) cmpE)
              (fun h => Ex.to (Ex.cons (Ex1.assign (Ev.castI (Ev.add (Ev.name rfl) Ev.int) (by rw [← hs', if_pos (of_decide_eq_true h)]; lia)) (.inl rfl)) Ex.nil) (.next ⟨rfl, rfl, rfl, rfl, rfl, trivial⟩))
              (fun h => Ex.to Ex.nil (.next ⟨rfl, rfl, rfl, rfl, by rw [← hs', if_neg (of_decide_eq_false h)]; rfl, trivial⟩))) ?_
            refine Ex.cons (Ex1.assign (Ev.callA (Ev.name rfl) (s2 st' hst') (EvL.cons (Ev.name rfl) (EvL.cons (Ev.name rfl) EvL.nil)) hr.deeper hh fn_noSearch) (.inl rfl)) ?_
            rw [h2]
            exact Ex.leave (Ex1.ite (c := true) (EvT.not (b := false) (EvT.val (P := pnone) (Ev.name rfl) fun F s v f h => truthy_none h)) (fun _ => Ex.leave Ex1.brk) (fun h => nomatch h))
          | some ij =>
            obtain ⟨i', j'⟩ := ij
            refine Wh.turn (EvT.boolop (EvA.and_yes (EvT.ic (Ev.name rfl) (Ev.name rfl) (cmp_lt hc.1)) (EvA.and_yes (EvT.ic (Ev.name rfl) (Ev.name rfl) (le hc.2)) EvA.and_nil))) ?_ (ih st' (some (i, j)) i' j' h2 hst' hn')
            refine Ex.cons (Ex1.assign (Ev.name rfl) (.inl rfl)) ?_
            refine Ex.cons (Ex1.ite (c := decide (i = j)) (o := .next (al [("prog", pprog ax), ("chars", ptx l), ("col", pint (col : Int)), ("found", phit i j), ("j", pint (st' : Int))]) (fun _ => none)) (EvT.ic (Ev.name rfl) (Ev.name rfl) cmpE)
              (fun h => Ex.to (Ex.cons (Ex1.assign (Ev.castI (Ev.add (Ev.name rfl) Ev.int) (by rw [← hs', if_pos (of_decide_eq_true h)]; lia)) (.inl rfl)) Ex.nil) (.next ⟨rfl, rfl, rfl, rfl, rfl, trivial⟩))
              (fun h => Ex.to Ex.nil (.next ⟨rfl, rfl, rfl, rfl, by rw [← hs', if_neg (of_decide_eq_false h)]; rfl, trivial⟩))) ?_
            refine Ex.cons (Ex1.assign (Ev.callA (Ev.name rfl) (s2 st' hst') (EvL.cons (Ev.name rfl) (EvL.cons (Ev.name rfl) EvL.nil)) hr.deeper hh fn_noSearch) (.inl rfl)) ?_
            rw [h2]
            refine Ex.cons (Ex1.ite (c := false) (EvT.not (b := true) (EvT.val (P := phit i' j') (Ev.name rfl) fun F s v f h => truthy_attr h)) (fun h => nomatch h) (fun _ => Ex.nil)) ?_
            exact Ex.to (Ex.cons (Ex1.assignT (Ev.callA (Q := pcall 1 [] (pd (.tup [.int i', .int j']))) (Ev.name rfl) (fun F h v x => x) EvL.nil hr.deeper hh fn_noSpan) (Asg.tuple hh (AsgL.cons (Asg.name (.inl rfl)) (AsgL.cons (Asg.name (.inl rfl)) AsgL.nil)))) Ex.nil) (.next ⟨rfl, rfl, rfl, rfl, rfl, rfl, rfl, trivial⟩)
        · rw [if_neg hc]
          by_cases hi : i < col
          · exact Wh.to (Wh.stop (EvT.boolop (EvA.and_yes (EvT.ic (Ev.name rfl) (Ev.name rfl) (cmp_lt hi)) (EvA.and_no (EvT.ic (Ev.name rfl) (Ev.name rfl) (nle fun q => hc ⟨hi, q⟩)))))) (.next ⟨rfl, trivial⟩)
          · exact Wh.to (Wh.stop (EvT.boolop (EvA.and_no (EvT.ic (Ev.name rfl) (Ev.name rfl) (cmp_nlt hi))))) (.next ⟨rfl, trivial⟩)
  · exact bind3 fun a b c => rfl
end Mine
open PySem PySem.W PyProof.Rows
set_option Elab.async false
set_option maxRecDepth 100000
set_option maxHeartbeats 1000000
set_option linter.unusedVariables false
set_option linter.unusedSimpArgs false
namespace Mine
variable {B : Bs}
noncomputable def sgn (x : Int) : Nat := if x.fmod 4 = 0 then 47 else if x.fmod 4 = 1 then 92 else if x.fmod 4 = 2 then 34 else (97 + (x.fdiv 4).fmod 25000).toNat
theorem fn_sign (W : W1 B) (x : Int) : Fn B 1 (.ref 60) [pint x] (ptx [sgn x]) := by
  refine Fn.intro (xs := [Str.ofString "x"]) (get_of W.K rfl rfl rfl rfl) ?_ rfl ?_
  · intro A h₀ hr hh hb
    have h4 : 0 ≤ x.fmod 4 ∧ x.fmod 4 < 4 := by rw [Int.fmod_eq_emod_of_nonneg _ (by decide)]; lia
    refine Ex.leave (Ex1.ret (Ev.ite (c := decide (x.fmod 4 < 3)) (EvT.ic (Ev.mod (Ev.name rfl) Ev.int (by decide)) Ev.int rfl) (fun h => ?_) (fun h => ?_)))
    · have h3 := of_decide_eq_true h
      refine Ev.ixS (l := [47, 92, 34]) (k := x.fmod 4) (c := sgn x) Ev.tx (Ev.mod (Ev.name rfl) Ev.int (by decide)) h4.1 (by lia) ?_
      unfold sgn
      have : x.fmod 4 = 0 ∨ x.fmod 4 = 1 ∨ x.fmod 4 = 2 := by lia
      rcases this with e | e | e <;> rw [e] <;> rfl
    · have h3 := of_decide_eq_false h
      have h1 : 0 ≤ (x.fdiv 4).fmod 25000 ∧ (x.fdiv 4).fmod 25000 < 25000 := by rw [Int.fmod_eq_emod_of_nonneg _ (by decide)]; lia
      have e : sgn x = (97 + (x.fdiv 4).fmod 25000).toNat := by unfold sgn; rw [if_neg (by lia), if_neg (by lia), if_neg (by lia)]
      rw [e]
      exact Ev.call (H := anyH) (Ev.bltK W.K rfl (by rfl) (by kernel_rfl) (by decide) (by decide)) (EvL.cons (Ev.add Ev.int (Ev.mod (Ev.fdiv (Ev.name rfl) Ev.int (by decide) (by decide)) Ev.int (by decide))) EvL.nil) (fn_chr _ (by lia) (by lia)) hr.deeper trivial
  · exact bind1 fun a => rfl
noncomputable def nthS : List Stmt → Nat → Stmt
  | s :: _, 0 => s
  | _ :: r, n + 1 => nthS r n
  | [], _ => .Pass ⟨0, 0, 0, 0⟩
noncomputable def inS (s : Stmt) : List Stmt := (partsS s).2.2.1
noncomputable def tgtS (s : Stmt) : Expr := (partsS s).1
noncomputable def fdOf (K : Frag) (a : Addr) : FuncData := match K.lookup a with
  | some ⟨_, _, .func fd, _⟩ => fd
  | _ => mkFd "" "" ⟨[], [], none, [], [], none, []⟩ (.stmts []) { kind := .module, names := [] , isGenerator := false, isCoroutine := false, more := [] } [] .none .none .none .none 0
noncomputable abbrev C1 (B : Bs) (A : Around) (h₀ : Heap) (a : Addr) : Cx B := mkC B A h₀ (fdOf (K1 B) a) a
/-- what stands ahead of a sign, and for it -/
noncomputable def sep (f s : Nat) : List Nat := if (decide (f ∈ [47, 92]) && decide (s ∈ [47, 92, 34])) = true then [32] else []
noncomputable def pc (s : Nat) : List Nat := if decide (s ∈ [47, 92]) = true then [34] else if decide (s = 34) = true then [34, 34] else [s]
noncomputable def lnT : Nat → List Nat → List Nat
  | _, [] => []
  | f, s :: r => sep f s ++ (pc s ++ lnT s r)
noncomputable def lnS : Nat → Nat → List Nat → List Nat
  | _, _, [] => []
  | n, f, s :: r => (n + (sep f s).length) :: lnS (n + (sep f s).length + (pc s).length) s r
theorem sep_len (f s : Nat) : (sep f s).length ≤ 1 := by unfold sep; split <;> simp
theorem pc_len (s : Nat) : (pc s).length ≤ 2 := by unfold pc; split <;> (try split) <;> simp
noncomputable def dN (n : Nat) : D := .int n
noncomputable def dC (c : Nat) : D := .str (mkS [c])
noncomputable def lineD (s : List Nat) : D := .tup [.str (mkS (lnT 97 s)), .lst ((lnS 0 97 s ++ [(lnT 97 s).length]).map dN), .str (mkS s)]
theorem updM_updM {μ : Mu B} {a : Addr} {x y : List (Pd B)} : updM (updM μ a x) a y = updM μ a y := by
  funext b; unfold updM; by_cases h : b = a <;> simp [h]
theorem updM_self {μ : Mu B} {a : Addr} {x : List (Pd B)} : updM μ a x a = some x := by simp [updM]
noncomputable abbrev lnL (sg : List Nat) (a : Addr) (T : List Nat) (f : Nat) : List (String × Pd B) := [("signs", pd (.lst (sg.map dC))), ("text", ptx T), ("starts", pv (.ref a)), ("former", ptx [f])]
theorem eqN {c d : Nat} : ([c] == [d]) = decide (c = d) := by
  by_cases h : c = d <;> simp [h]
theorem line_loop (W : W1 B) {A : Around} {h₀ : Heap} (hr : Room 1 A) (hh : A.handled = none) {sg : List Nat} {a : Addr} : ∀ (r T S : List Nat) (f : Nat), T.length + 3 * r.length ≤ 1000 → S.length + r.length ≤ 1000 →
    Fo (C1 B A h₀ 67) (al (lnL sg a T f)) (updM (fun _ => none) a ((S.map dN).map pd)) ((r.map dC).map pd) (tgtS (nthS (bodyOf (K1 B) 67) 1)) (inS (nthS (bodyOf (K1 B) 67) 1))
      (.next (al [("signs", pd (.lst (sg.map dC))), ("text", ptx (T ++ lnT f r)), ("starts", pv (.ref a))]) (updM (fun _ => none) a (((S ++ lnS T.length f r).map dN).map pd)))
  | [], T, S, f, h1, h2 => by
    refine Fo.to (Fo.nil hh) ?_
    simp only [lnT, lnS, List.append_nil]
    exact .next (by repeat (first | exact trivial | refine And.intro rfl ?_))
  | s :: r, T, S, f, h1, h2 => by
    have l1 := sep_len f s
    have l2 := pc_len s
    simp only [List.length_cons] at h1 h2
    have e1 : T ++ lnT f (s :: r) = (T ++ sep f s ++ pc s) ++ lnT s r := by simp [lnT]
    have e2 : S ++ lnS T.length f (s :: r) = (S ++ [(T ++ sep f s).length]) ++ lnS (T ++ sep f s ++ pc s).length s r := by simp [lnS, Nat.add_assoc]
    rw [e1, e2]
    refine Fo.next (Asg.name (.inl rfl)) ?_ (line_loop W hr hh r (T ++ sep f s ++ pc s) (S ++ [(T ++ sep f s).length]) s (by simp; lia) (by simp; lia))
    refine Ex.cons (Ex1.ite (c := decide (f ∈ [47, 92]) && decide (s ∈ [47, 92, 34])) (o := .next (al [("signs", pd (.lst (sg.map dC))), ("text", ptx (T ++ sep f s)), ("starts", pv (.ref a)), ("sign", ptx [s])]) (updM (fun _ => none) a ((S.map dN).map pd)))
      (EvT.and2 (EvT.cmp (Ev.inS (x := [47, 92]) (Ev.name rfl) Ev.tx)) fun _ => EvT.cmp (Ev.inS (x := [47, 92, 34]) (Ev.name rfl) Ev.tx)) (fun h => ?_) (fun h => ?_)) ?_
    · have e : sep f s = [32] := if_pos h
      rw [e]
      exact Ex.to (Ex.cons (Ex1.augS (i := T) (j := [32]) rfl Ev.tx (.inl rfl) (by simp; lia)) Ex.nil) (.next (by repeat (first | exact trivial | refine And.intro rfl ?_)))
    · have e : sep f s = [] := if_neg (by rw [h]; decide)
      rw [e, List.append_nil]
      exact Ex.to Ex.nil (.next (by repeat (first | exact trivial | refine And.intro rfl ?_)))
    refine Ex.cons (Ex1.append (Ps := (S.map dN).map pd) (P := pd (dN (T ++ sep f s).length)) (Ev.name rfl) updM_self (Ev.len W.K (Ev.name rfl) (by simp; lia) (hr.deeper.le (by decide)) rfl (by rfl)) (by simp [sizeLine]; lia)) ?_
    rw [updM_updM]
    refine Ex.cons (Ex1.augS (i := T ++ sep f s) (j := pc s) rfl (Ev.ite (c := decide (s ∈ [47, 92])) (EvT.cmp (Ev.inS (x := [47, 92]) (Ev.name rfl) Ev.tx)) (fun h => ?_) (fun h => Ev.ite (c := decide (s = 34)) (EvT.eqc (i := [s]) (j := [34]) (Ev.name rfl) Ev.tx eqN) (fun h' => ?_) (fun h' => ?_))) (.inl rfl) (by simp; lia)) ?_
    · rw [show pc s = [34] from if_pos h]; exact Ev.tx
    · rw [show pc s = [34, 34] from by unfold pc; rw [if_neg (by rw [h]; decide), if_pos h']]; exact Ev.tx
    · rw [show pc s = [s] from by unfold pc; rw [if_neg (by rw [h]; decide), if_neg (by rw [h']; decide)]]; exact Ev.name rfl
    have e3 : (S.map dN).map (pd (B := B)) ++ [pd (dN (T ++ sep f s).length)] = ((S ++ [(T ++ sep f s).length]).map dN).map pd := by simp
    rw [e3]
    exact Ex.to (Ex.cons (Ex1.assign (Ev.name rfl) (.inl rfl)) Ex.nil) (.next (by repeat (first | exact trivial | refine And.intro rfl ?_)))
theorem lnT_len : ∀ (r : List Nat) (f : Nat), (lnT f r).length ≤ 3 * r.length
  | [], _ => Nat.le_refl _
  | s :: r, f => by
    have l1 := sep_len f s
    have l2 := pc_len s
    have := lnT_len r s
    simp [lnT]; lia
theorem lnS_len : ∀ (r : List Nat) (n f : Nat), (lnS n f r).length = r.length
  | [], _, _ => rfl
  | s :: r, n, f => by simp [lnS, lnS_len r]
theorem flat1 {α β : Type} (f : α → β) : ∀ l : List α, (l.map fun x => [f x]).flatten = l.map f
  | [] => rfl
  | a :: l => by simp only [List.map_cons, List.flatten_cons, flat1 f l]; rfl
theorem fn_line (W : W1 B) (sg : List Nat) (hl : sg.length ≤ 100) : Fn B 1 (.ref 67) [pd (.lst (sg.map dC))] (pd (lineD sg)) := by
  refine Fn.intro (xs := [Str.ofString "signs"]) (get_of W.K rfl rfl rfl rfl) ?_ rfl ?_
  · intro A h₀ hr hh hb
    have hT := lnT_len sg 97
    refine Ex.ownSw (P1 := ptx []) (P3 := ptx [97]) hh Ev.tx lasts_str Ev.tx lasts_str (.inl rfl) (.inl rfl) (.inl rfl) fun a _ => ?_
    refine Ex.cons (Ex1.for (EvI.list (ds := sg.map dC) (Ev.name rfl)) (Fo.wk (l := lnL sg a [] 97) (by repeat (first | exact trivial | refine And.intro rfl ?_)) (line_loop W hr hh sg [] [] 97 (by simp; lia) (by simp; lia)))) ?_
    simp only [List.nil_append, List.length_nil]
    refine Ex.leave (Ex1.ret (Ev.tuple (ds := [.str (mkS (lnT 97 sg)), .lst ((lnS 0 97 sg ++ [(lnT 97 sg).length]).map dN), .str (mkS sg)]) (EvL.cons (Ev.name rfl) (EvL.cons (Ev.castD (Ev.catOwn (x := (lnS 0 97 sg).map dN) (y := [dN (lnT 97 sg).length]) (Ev.name rfl) updM_self (Ev.list (EvL.cons (Ev.len W.K (Ev.name rfl) (by lia) (hr.deeper.le (by decide)) rfl (by rfl)) EvL.nil)) (by simp [lnS_len, sizeLine]; lia)) (by simp)) (EvL.cons ?_ EvL.nil)))))
    have hf : (sg.map fun x => [x]).flatten = sg := by rw [flat1]; simp
    refine Ev.castS (i := (sg.map fun x => [x]).flatten) (Ev.meth (P := ptx []) (Ps := [pd (.lst ((sg.map fun x => [x]).map fun l => .str (mkS l)))]) Ev.tx (fun F s v h => by obtain ⟨t, rfl⟩ := str_of h; exact ⟨typeIs_str s _ _, fun _ e => nomatch e⟩)
      (EvL.cons (Ev.castD (Ev.name rfl) (by simp [dC])) EvL.nil) (fn_join (H := anyH) _ (fun l hl => by obtain ⟨x, _, rfl⟩ := List.mem_map.mp hl; simp) (by simp; lia)) (hr.deeper.le (by decide)) trivial PySem.F.plainAttrs_str PySem.F.slot_str_join PySem.F.type_str_join) hf
  · exact bind1 fun a => rfl
end Mine
open PySem PySem.W PyProof.Rows
set_option Elab.async false
set_option maxRecDepth 100000
set_option maxHeartbeats 1000000
set_option linter.unusedVariables false
set_option linter.unusedSimpArgs false
namespace Mine
noncomputable def isM (c : Nat) : Bool := decide (c ∈ [47, 92])
/-- a mirror or a pane -/
noncomputable def isP (c : Nat) : Bool := isM c || decide (c = 34)
/-- the signs that may stand in a cell -/
noncomputable def Sg (c : Nat) : Prop := isP c = true ∨ 97 ≤ c
theorem sgn_ok (x : Int) : Sg (sgn x) := by
  unfold sgn
  split
  · left; rfl
  · split
    · left; rfl
    · split
      · left; rfl
      · right
        have : 0 ≤ (x.fdiv 4).fmod 25000 := by rw [Int.fmod_eq_emod_of_nonneg _ (by decide)]; omega
        omega
theorem open_of {c : Nat} (h : isP c = false) (s : Sg c) : 97 ≤ c := by
  rcases s with q | q
  · rw [h] at q; cases q
  · exact q
theorem isM_iff {c : Nat} : isM c = true ↔ (c = 47 ∨ c = 92) := by simp [isM]
theorem sep_open {f s : Nat} (h : isP s = false) : sep f s = [] := by
  unfold sep isP isM at *
  simp only [Bool.or_eq_false_iff, decide_eq_false_iff_not, List.mem_cons, List.not_mem_nil, or_false, not_or] at h
  simp [h.1.1, h.1.2, h.2]
theorem pc_open {s : Nat} (h : isP s = false) : pc s = [s] := by
  unfold pc isP isM at *
  simp only [Bool.or_eq_false_iff] at h
  rw [if_neg (by rw [h.1]; decide), if_neg (by rw [h.2]; decide)]
theorem pc_mir {s : Nat} (h : isM s = true) : pc s = [34] := if_pos h
theorem pc_34 : pc 34 = [34, 34] := rfl
/-- what stands from a cell on -/
noncomputable def sfx : List Nat → List Nat
  | [] => []
  | s :: r => pc s ++ lnT s r
/-- behind a mirror no mark follows at once -/
theorem behind_mir {s : Nat} (h : isM s = true) : ∀ {r : List Nat}, (∀ c ∈ r, Sg c) → (lnT s r).take 1 ≠ [34]
  | [], _ => by simp [lnT]
  | c :: r, hv => by
    by_cases hp : isP c = true
    · have e : sep s c = [32] := by
        unfold sep
        have h2 : decide (c ∈ [47, 92, 34]) = true := by
          simp only [isP, isM, Bool.or_eq_true, decide_eq_true_eq, List.mem_cons, List.not_mem_nil, or_false] at hp ⊢
          omega
        rw [if_pos (by rw [h2]; simpa [isM] using h)]
      simp [lnT, e]
    · have hp' : isP c = false := by simpa using hp
      have := open_of hp' (hv c List.mem_cons_self)
      simp [lnT, sep_open hp', pc_open hp']; omega
theorem nm34 {r : List Nat} (h : r.take 1 ≠ [34]) : nm (34 :: r) = [] := by
  cases r with
  | nil => simp [nm]
  | cons d r => have : d ≠ 34 := by simpa using h
                simp [nm, this]
theorem nm3434 {r : List Nat} : nm (34 :: 34 :: r) = 34 :: nm r := by simp [nm]
/-- the name that is told from a cell on -/
theorem nm_sfx : ∀ (r : List Nat), (∀ c ∈ r, Sg c) → nm (sfx r) = r.takeWhile (fun c => !isM c)
  | [], _ => by simp [sfx, nm]
  | s :: r, hv => by
    have hv' : ∀ c ∈ r, Sg c := fun c hc => hv c (List.mem_cons_of_mem _ hc)
    cases hm : isM s with
    | true =>
      simp only [sfx, pc_mir hm, List.singleton_append, List.takeWhile_cons, hm, Bool.not_true, Bool.false_eq_true, if_false]
      exact nm34 (behind_mir hm hv')
    | false =>
      have tail : s ∉ [47, 92] → nm (lnT s r) = r.takeWhile (fun c => !isM c) := fun hs => by
        have := nm_sfx r hv'
        rw [← this]
        cases r with
        | nil => rfl
        | cons c r =>
          have : sep s c = [] := by unfold sep; rw [if_neg]; simp [hs]
          simp [lnT, this, sfx]
      have hs : s ∉ [47, 92] := by simpa [isM] using hm
      by_cases h34 : s = 34
      · subst h34
        simp only [sfx, pc_34, List.takeWhile_cons, hm, Bool.not_false, if_true]
        show nm (34 :: 34 :: lnT 34 r) = _
        rw [nm3434, tail hs]
      · have hp : isP s = false := by simp [isP, hm, h34]
        simp only [sfx, pc_open hp, List.singleton_append, List.takeWhile_cons, hm, Bool.not_false, if_true]
        rw [nm_ne _ h34, tail hs]
/-- where the cells begin -/
theorem starts_at : ∀ (sg : List Nat) (n f k : Nat), k ≤ sg.length → ∃ p, (lnS n f sg ++ [n + (lnT f sg).length])[k]? = some (n + p) ∧ p ≤ (lnT f sg).length ∧ (lnT f sg).drop p = sfx (sg.drop k)
  | [], n, f, k, h => by
    have : k = 0 := by simpa using h
    subst this
    exact ⟨0, by simp [lnS, lnT], by simp, by simp [lnT, sfx]⟩
  | s :: r, n, f, 0, h => ⟨(sep f s).length, by simp [lnS], by simp [lnT], by simp [lnT, sfx]⟩
  | s :: r, n, f, k + 1, h => by
    obtain ⟨p, h1, h2, h3⟩ := starts_at r (n + (sep f s).length + (pc s).length) s k (by simpa using h)
    refine ⟨(sep f s).length + (pc s).length + p, ?_, by simp [lnT]; omega, ?_⟩
    · simp only [lnS, List.cons_append, List.getElem?_cons_succ, lnT, List.length_append]
      rw [show n + ((sep f s).length + ((pc s).length + (lnT s r).length)) = n + (sep f s).length + (pc s).length + (lnT s r).length from by omega, h1]
      congr 1; omega
    · simp only [lnT, List.drop_succ_cons]
      rw [← h3, ← List.append_assoc, show (sep f s).length + (pc s).length + p = (sep f s ++ pc s).length + p from by simp, List.drop_append, List.drop_of_length_le (by omega)]
      simp
noncomputable abbrev stsOf (sg : List Nat) : List Nat := lnS 0 97 sg ++ [(lnT 97 sg).length]
/-- the place of a cell in the text -/
noncomputable def plc (sg : List Nat) (k : Nat) : Nat := (stsOf sg).getD k 0
theorem plc_spec {sg : List Nat} {k : Nat} (h : k ≤ sg.length) : (stsOf sg)[k]? = some (plc sg k) ∧ plc sg k ≤ (lnT 97 sg).length ∧ (lnT 97 sg).drop (plc sg k) = sfx (sg.drop k) := by
  obtain ⟨p, h1, h2, h3⟩ := starts_at sg 0 97 k h
  simp only [Nat.zero_add] at h1
  have e : plc sg k = p := by unfold plc; rw [List.getD_eq_getElem?_getD]; show ((lnS 0 97 sg ++ [(lnT 97 sg).length])[k]?).getD 0 = p; rw [h1]; rfl
  rw [e]; exact ⟨h1, h2, h3⟩
end Mine
open PySem PySem.W PyProof.Rows
set_option Elab.async false
set_option maxRecDepth 100000
set_option maxHeartbeats 1000000
set_option linter.unusedVariables false
set_option linter.unusedSimpArgs false
namespace Mine
variable {B : Bs}
theorem slc_from {l : List Nat} {p : Nat} : slc l (some (p : Int)) none = l.drop p := by simp [slc]
theorem slc_mid {l : List Nat} {p q : Nat} : slc l (some (p : Int)) (some (q : Int)) = (l.take q).drop p := by simp [slc]
noncomputable def run (sg : List Nat) (a : Nat) : List Nat := (sg.drop a).takeWhile fun c => !isM c
theorem run_pre (sg : List Nat) (a : Nat) : run sg a ++ (sg.drop a).dropWhile (fun c => !isM c) = sg.drop a := List.takeWhile_append_dropWhile
theorem run_len (sg : List Nat) (a : Nat) : (run sg a).length ≤ sg.length - a := by
  have := congrArg List.length (run_pre sg a)
  simp at this; lia
theorem run_slc (sg : List Nat) (a : Nat) : (sg.take (a + (run sg a).length)).drop a = run sg a := by
  rw [List.drop_take, Nat.add_sub_cancel_left, ← run_pre sg a]
  simp
theorem fn_forth (W : W1 B) (sg : List Nat) (a : Nat) (hl : sg.length ≤ 30) (hv : ∀ c ∈ sg, Sg c) (ha : a ≤ sg.length) : Fn B 2 (.ref 88) [pd (lineD sg), pint (a : Int)] (pint ((a + (run sg a).length : Nat) : Int)) := by
  refine Fn.intro (xs := [Str.ofString "line", Str.ofString "at"]) (get_of W.K rfl rfl rfl rfl) ?_ rfl ?_
  · intro A h₀ hr hh hb
    obtain ⟨p1, p2, p3⟩ := plc_spec ha
    have hT := lnT_len sg 97
    have hrl := run_len sg a
    have hnm : nm ((lnT 97 sg).drop (plc sg a)) = run sg a := by
      rw [p3, nm_sfx _ fun c hc => hv c (List.mem_of_mem_drop hc)]; rfl
    refine Ex.cons (Ex1.assignT (Ev.name rfl) (Asg.tuple hh (AsgL.cons (Asg.name (.inl rfl)) (AsgL.cons (Asg.name (.inl rfl)) (AsgL.cons (Asg.name (.inl rfl)) AsgL.nil))))) ?_
    refine Ex.cons (Ex1.assign (P := ptx (run sg a)) (Ev.castS (Ev.call (H := anyH) (Ev.glob rfl (glob1 W.K rfl)) (EvL.cons (Ev.catS (i := [50, 53, 55, 32, 34]) (j := (lnT 97 sg).drop (plc sg a)) Ev.tx (Ev.castS (Ev.slS (a := some (plc sg a : Int)) (b := Option.none) (Ev.name rfl) (Ev.ixL (l := (stsOf sg).map dN) (k := (a : Int)) (Ev.name rfl) (Ev.name rfl) (by lia) (by lia) (by rw [Int.toNat_natCast, List.getElem?_map, p1]; rfl)) trivial (by show (0 : Int) ≤ plc sg a; lia) trivial (by simp [sizeLine]; lia)) slc_from) (by simp; lia)) EvL.nil) (fn_parse W.K ((lnT 97 sg).drop (plc sg a)) (by simp; lia)) (hr.deeper.le (by decide)) trivial) hnm) (.inl rfl)) ?_
    refine Ex.cons (Ex1.assign (P := pint ((a + (run sg a).length : Nat) : Int)) (Ev.castI (Ev.add (Ev.name rfl) (Ev.len W.K (Ev.name rfl) (by lia) (hr.deeper.le (by decide)) rfl (by rfl))) (by lia)) (.inl rfl)) ?_
    refine Ex.leave (Ex1.ret (Ev.ite (c := true) (EvT.eqc (i := run sg a) (j := run sg a) (Ev.name rfl) (Ev.castS (Ev.slS (a := some (a : Int)) (b := some ((a + (run sg a).length : Nat) : Int)) (Ev.name rfl) (Ev.name rfl) (Ev.name rfl) (by show (0 : Int) ≤ a; lia) (by show (0 : Int) ≤ ((a + (run sg a).length : Nat) : Int); lia) (by simp [sizeLine]; lia)) (slc_mid.trans (run_slc sg a))) (by simp)) (fun _ => Ev.name rfl) (fun h => nomatch h)))
  · exact bind2 fun a b => rfl
end Mine
open PySem PySem.W PyProof.Rows
set_option Elab.async false
set_option maxRecDepth 100000
set_option maxHeartbeats 1000000
set_option linter.unusedVariables false
set_option linter.unusedSimpArgs false
namespace Mine
theorem sts_shift (s : Nat) (r : List Nat) (n f : Nat) : lnS n f (s :: r) ++ [n + (lnT f (s :: r)).length] = (n + (sep f s).length) :: (lnS (n + (sep f s).length + (pc s).length) s r ++ [n + (sep f s).length + (pc s).length + (lnT s r).length]) := by
  simp only [lnS, lnT, List.cons_append, List.length_append]
  rw [show n + ((sep f s).length + ((pc s).length + (lnT s r).length)) = n + (sep f s).length + (pc s).length + (lnT s r).length from by lia]
theorem sts_step : ∀ (sg : List Nat) (n f k b : Nat), k < b → b ≤ sg.length → ∃ x y, (lnS n f sg ++ [n + (lnT f sg).length])[k]? = some x ∧ (lnS n f sg ++ [n + (lnT f sg).length])[b]? = some y ∧ x + (pc (sg.getD k 0)).length ≤ y
  | [], n, f, k, b, h, hb => by simp at hb; omega
  | s :: r, n, f, 0, b + 1, h, hb => by
    obtain ⟨p, h1, _, _⟩ := starts_at r (n + (sep f s).length + (pc s).length) s b (by simpa using hb)
    rw [sts_shift]
    exact ⟨_, _, rfl, h1, by simp⟩
  | s :: r, n, f, k + 1, b + 1, h, hb => by
    obtain ⟨x, y, h1, h2, h3⟩ := sts_step r (n + (sep f s).length + (pc s).length) s k b (by omega) (by simpa using hb)
    rw [sts_shift]
    exact ⟨x, y, h1, h2, by simpa using h3⟩
theorem pc_pos (s : Nat) : 1 ≤ (pc s).length := by unfold pc; split <;> (try split) <;> simp
theorem plc_lt {sg : List Nat} {k b : Nat} (h : k < b) (hb : b ≤ sg.length) : plc sg k + (pc (sg.getD k 0)).length ≤ plc sg b := by
  obtain ⟨x, y, h1, h2, h3⟩ := sts_step sg 0 97 k b h hb
  rw [Nat.zero_add] at h1 h2
  have e1 : plc sg k = x := by unfold plc; rw [List.getD_eq_getElem?_getD]; show ((lnS 0 97 sg ++ [(lnT 97 sg).length])[k]?).getD 0 = x; rw [h1]; rfl
  have e2 : plc sg b = y := by unfold plc; rw [List.getD_eq_getElem?_getD]; show ((lnS 0 97 sg ++ [(lnT 97 sg).length])[b]?).getD 0 = y; rw [h2]; rfl
  rw [e1, e2]; exact h3
theorem plc_mono {sg : List Nat} {k b : Nat} (h : k < b) (hb : b ≤ sg.length) : plc sg k < plc sg b := by
  have := plc_lt h hb
  have := pc_pos (sg.getD k 0)
  lia
/-- a cell's match -/
noncomputable def spP (ax s p : Nat) : Nat × Nat := if s = 34 then (if ax = 1 then p + 1 else p, if ax = 0 then p + 2 else p + 1) else (p, p + 1)
noncomputable def bkc (ax col : Nat) : List Nat → Nat → Nat → Option (Nat × Nat) → Option (Nat × Nat)
  | [], _, _, found => found
  | s :: r, f, q, found =>
    if isP s = true then
      if (spP ax s (q + (sep f s).length)).1 < col ∧ (spP ax s (q + (sep f s).length)).2 ≤ col then bkc ax col r s (q + (sep f s).length + (pc s).length) (some (spP ax s (q + (sep f s).length))) else found
    else bkc ax col r s (q + 1) found
theorem fnd_none {ax : Nat} {T : List Nat} {q : Nat} (h : T.drop q = []) : fnd ax T q = none := by
  unfold fnd
  rw [h]
  have : T.length ≤ q := by simpa using h
  simp [fq, this]
theorem fnd_skip {ax : Nat} {T r : List Nat} {q s : Nat} (h : T.drop q = s :: r) (hs : s ≠ 34) : fnd ax T q = fnd ax T (q + 1) := by
  have h2 : T.drop (q + 1) = r := (getElem_of_drop h).2.1
  unfold fnd
  rw [h, h2]
  have e : fq (s :: r) = fq r + 1 := by simp [fq, hs]
  rw [e, show q + (fq r + 1) = q + 1 + fq r from by lia]
theorem fnd_here {ax : Nat} {T r : List Nat} {q : Nat} (h : T.drop q = 34 :: r) : fnd ax T q = some (spanOf ax T q) := by
  have h2 := (getElem_of_drop h).2.2
  unfold fnd
  rw [h]
  have e : fq (34 :: r) = 0 := by simp [fq]
  rw [e, Nat.add_zero]
  simp only
  rw [if_neg (by lia)]
theorem sep_cases (f s : Nat) : sep f s = [] ∨ sep f s = [32] := by unfold sep; split <;> simp
theorem fnd_mark {ax : Nat} {T r : List Nat} {q f s : Nat} (h : T.drop q = sep f s ++ 34 :: r) : T.drop (q + (sep f s).length) = 34 :: r ∧ fnd ax T q = some (spanOf ax T (q + (sep f s).length)) := by
  rcases sep_cases f s with e | e
  · rw [e] at h ⊢
    exact ⟨h, fnd_here h⟩
  · rw [e] at h ⊢
    have h' : T.drop q = 32 :: 34 :: r := h
    have h2 : T.drop (q + 1) = 34 :: r := (getElem_of_drop h').2.1
    exact ⟨h2, by rw [fnd_skip h' (by decide), fnd_here h2]; rfl⟩
theorem srl_skip {ax col n q : Nat} {T : List Nat} {found : Option (Nat × Nat)} (h : fnd ax T q = fnd ax T (q + 1)) : srl ax T col n q found = srl ax T col n (q + 1) found := by
  cases n with
  | zero => rfl
  | succ n => unfold srl; rw [h]
theorem srl_bkc {ax col : Nat} (hax : ax = 0 ∨ ax = 1) {T : List Nat} : ∀ (r : List Nat) (f q n : Nat) (found : Option (Nat × Nat)), T.drop q = lnT f r → (∀ c ∈ r, Sg c) → r.length < n → srl ax T col n q found = bkc ax col r f q found
  | [], f, q, n, found, h, hv, hn => by
    cases n with
    | zero => lia
    | succ n => unfold srl; rw [fnd_none h]; rfl
  | s :: r, f, q, n, found, h, hv, hn => by
    have hv' : ∀ c ∈ r, Sg c := fun c hc => hv c (List.mem_cons_of_mem _ hc)
    simp only [List.length_cons] at hn
    cases hp : isP s with
    | false =>
      have hs : s ≠ 34 := by rintro rfl; cases hp
      have h' : T.drop q = s :: lnT s r := by rw [h]; simp [lnT, sep_open hp, pc_open hp]
      have e : bkc ax col (s :: r) f q found = bkc ax col r s (q + 1) found := by rw [bkc, if_neg (by rw [hp]; decide)]
      rw [e, srl_skip (fnd_skip h' hs)]
      exact srl_bkc hax r s (q + 1) n found (getElem_of_drop h').2.1 hv' (by lia)
    | true =>
      cases n with
      | zero => lia
      | succ n =>
        have e : bkc ax col (s :: r) f q found = if (spP ax s (q + (sep f s).length)).1 < col ∧ (spP ax s (q + (sep f s).length)).2 ≤ col then bkc ax col r s (q + (sep f s).length + (pc s).length) (some (spP ax s (q + (sep f s).length))) else found := by rw [bkc, if_pos hp]
        rw [e]
        by_cases h34 : s = 34
        · subst h34
          obtain ⟨g1, g2⟩ := fnd_mark (ax := ax) (f := f) (s := 34) (r := 34 :: lnT 34 r) (by rw [h]; rfl)
          generalize q + (sep f 34).length = p at g1 g2
          have g3 := (getElem_of_drop g1).2.1
          have g4 := (getElem_of_drop g3).2.1
          have hpn : pane T p = true := by unfold pane; rw [g3]; rfl
          have hsp : spanOf ax T p = spP ax 34 p := by unfold spanOf spP; rw [hpn]; simp
          unfold srl
          rw [g2, hsp]
          have hj : (if (spP ax 34 p).1 = (spP ax 34 p).2 then (spP ax 34 p).2 + 1 else (spP ax 34 p).2) = p + 2 := by
            rcases hax with rfl | rfl <;> simp [spP]
          have ih := fun fd => srl_bkc (col := col) hax r 34 (p + 2) n fd g4 hv' (by lia)
          generalize spP ax 34 p = sp at hj
          obtain ⟨i, j⟩ := sp
          simp only at hj ⊢
          rw [hj, ih]
          rfl
        · have hm : isM s = true := by simpa [isP, h34] using hp
          obtain ⟨g1, g2⟩ := fnd_mark (ax := ax) (f := f) (s := s) (r := lnT s r) (by rw [h]; simp [lnT, pc_mir hm])
          generalize q + (sep f s).length = p at g1 g2
          have g3 := (getElem_of_drop g1).2.1
          have hpn : pane T p = false := by unfold pane; rw [g3]; simpa using behind_mir hm hv'
          have hsp : spanOf ax T p = (p, p + 1) := by unfold spanOf; rw [hpn]; simp
          have hsp' : spP ax s p = (p, p + 1) := if_neg h34
          unfold srl
          rw [g2, hsp, hsp']
          have ih := fun fd => srl_bkc (col := col) hax r s (p + 1) n fd g3 hv' (by lia)
          simp only [pc_mir hm, List.length_singleton]
          rw [if_neg (show ¬ p = p + 1 from by lia), ih]
noncomputable def spn (ax : Nat) (sg : List Nat) (k : Nat) : Nat × Nat := spP ax (sg.getD k 0) (plc sg k)
/-- o is the last cell in [i, b) that is not open -/
noncomputable def LastIn (sg : List Nat) (i b : Nat) : Option Nat → Prop
  | none => ∀ k, i ≤ k → k < b → isP (sg.getD k 0) = false
  | some k => i ≤ k ∧ k < b ∧ isP (sg.getD k 0) = true ∧ ∀ j, k < j → j < b → isP (sg.getD j 0) = false
theorem bkc_last {ax col b : Nat} {sg : List Nat} (hb : b ≤ sg.length) (h1 : ∀ k, k < b → isP (sg.getD k 0) = true → (spn ax sg k).1 < col ∧ (spn ax sg k).2 ≤ col)
    (h2 : ∀ k, b ≤ k → k < sg.length → isP (sg.getD k 0) = true → ¬ ((spn ax sg k).1 < col ∧ (spn ax sg k).2 ≤ col)) :
    ∀ (r : List Nat) (i f q : Nat) (found : Option (Nat × Nat)), sg.drop i = r → (∀ j, j < r.length → (lnS q f r).getD j 0 = plc sg (i + j)) → ∃ o, bkc ax col r f q found = (o.map (spn ax sg)).or found ∧ LastIn sg i b o
  | [], i, f, q, found, hd, hp => ⟨none, rfl, fun k h1 h2 => by
      have : sg.length ≤ i := by simpa using hd
      lia⟩
  | s :: r, i, f, q, found, hd, hp => by
    obtain ⟨g1, g2, g3⟩ := getElem_of_drop hd
    have gs : sg.getD i 0 = s := by rw [List.getD_eq_getElem?_getD, g1]; rfl
    have p0 : q + (sep f s).length = plc sg i := by simpa [lnS] using hp 0 (by simp)
    have hp' : ∀ j, j < r.length → (lnS (q + (sep f s).length + (pc s).length) s r).getD j 0 = plc sg (i + 1 + j) := fun j hj => by
      have := hp (j + 1) (by simpa using hj)
      simp only [lnS, List.getD_cons_succ] at this
      rw [this]; congr 1; lia
    cases hs : isP s with
    | false =>
      have e : bkc ax col (s :: r) f q found = bkc ax col r s (q + 1) found := by rw [bkc, if_neg (by rw [hs]; decide)]
      rw [e]
      rw [sep_open hs, pc_open hs] at hp'
      obtain ⟨o, ho, hl⟩ := bkc_last hb h1 h2 r (i + 1) s (q + 1) found g2 hp'
      refine ⟨o, ho, ?_⟩
      cases o with
      | none => exact fun k a b' => if h : k = i then by rw [h, gs]; exact hs else hl k (by lia) b'
      | some k => exact ⟨by have := hl.1; lia, hl.2⟩
    | true =>
      have e : bkc ax col (s :: r) f q found = if (spn ax sg i).1 < col ∧ (spn ax sg i).2 ≤ col then bkc ax col r s (q + (sep f s).length + (pc s).length) (some (spn ax sg i)) else found := by
        rw [bkc, if_pos hs, p0, spn, gs]
      rw [e]
      by_cases hi : i < b
      · rw [if_pos (h1 i hi (by rw [gs]; exact hs))]
        obtain ⟨o, ho, hl⟩ := bkc_last hb h1 h2 r (i + 1) s _ (some (spn ax sg i)) g2 hp'
        rw [ho]
        cases o with
        | none => exact ⟨some i, rfl, Nat.le_refl _, hi, by rw [gs]; exact hs, fun j a b' => hl j (by lia) b'⟩
        | some k => exact ⟨some k, rfl, by have := hl.1; lia, hl.2⟩
      · rw [if_neg (h2 i (by lia) g3 (by rw [gs]; exact hs))]
        exact ⟨none, rfl, fun k a b' => by lia⟩
theorem lnT_ge : ∀ (r : List Nat) (f : Nat), r.length ≤ (lnT f r).length
  | [], _ => Nat.le_refl _
  | s :: r, f => by
    have l2 := pc_pos s
    have := lnT_ge r s
    simp [lnT]; lia
/-- the search back, up to a cut at b -/
theorem sr_cut {ax col b : Nat} {sg : List Nat} (hax : ax = 0 ∨ ax = 1) (hv : ∀ c ∈ sg, Sg c) (hb : b ≤ sg.length) (h1 : ∀ k, k < b → isP (sg.getD k 0) = true → (spn ax sg k).1 < col ∧ (spn ax sg k).2 ≤ col)
    (h2 : ∀ k, b ≤ k → k < sg.length → isP (sg.getD k 0) = true → ¬ ((spn ax sg k).1 < col ∧ (spn ax sg k).2 ≤ col)) : ∃ o, sr ax (lnT 97 sg) col = o.map (spn ax sg) ∧ LastIn sg 0 b o := by
  have hl := lnT_ge sg 97
  obtain ⟨o, ho, hl⟩ := bkc_last hb h1 h2 sg 0 97 0 none rfl (fun j hj => by
    unfold plc
    rw [Nat.zero_add, List.getD_eq_getElem?_getD, List.getD_eq_getElem?_getD, List.getElem?_append_left (by rw [lnS_len]; exact hj)])
  refine ⟨o, ?_, hl⟩
  unfold sr
  rw [srl_bkc hax sg 97 0 _ none rfl hv (by lia), ho]
  simp
theorem spn_le {ax : Nat} {sg : List Nat} {k : Nat} (hax : ax = 0 ∨ ax = 1) (hp : isP (sg.getD k 0) = true) : plc sg k ≤ (spn ax sg k).1 ∧ (spn ax sg k).1 < plc sg k + (pc (sg.getD k 0)).length ∧ (spn ax sg k).2 ≤ plc sg k + (pc (sg.getD k 0)).length := by
  unfold spn spP
  by_cases h : sg.getD k 0 = 34
  · rw [if_pos h, h, pc_34]; rcases hax with rfl | rfl <;> simp
  · have hm : isM (sg.getD k 0) = true := by
      unfold isP at hp
      rw [show decide (sg.getD k 0 = 34) = false from decide_eq_false h, Bool.or_false] at hp
      exact hp
    rw [if_neg h, pc_mir hm]; simp
theorem sr_at {ax b : Nat} {sg : List Nat} (hax : ax = 0 ∨ ax = 1) (hv : ∀ c ∈ sg, Sg c) (hb : b ≤ sg.length) : ∃ o, sr ax (lnT 97 sg) (plc sg b) = o.map (spn ax sg) ∧ LastIn sg 0 b o :=
  sr_cut hax hv hb (fun k hk hp => by
    have := plc_lt hk hb
    have := spn_le hax hp
    lia) fun k hk hkl hp => by
    have := spn_le hax hp
    rcases Nat.eq_or_lt_of_le hk with rfl | q
    · lia
    · have := plc_mono q (by lia : k ≤ sg.length); lia
theorem sr_mid {ax b : Nat} {sg : List Nat} (hax : ax = 0 ∨ ax = 1) (hv : ∀ c ∈ sg, Sg c) (hb : b < sg.length) (h34 : sg.getD b 0 = 34) : ∃ o, sr ax (lnT 97 sg) (plc sg b + 1) = o.map (spn ax sg) ∧ LastIn sg 0 b o :=
  sr_cut hax hv (Nat.le_of_lt hb) (fun k hk hp => by
    have := plc_lt hk (Nat.le_of_lt hb)
    have := spn_le hax hp
    lia) fun k hk hkl hp => by
    rcases Nat.eq_or_lt_of_le hk with rfl | q
    · unfold spn spP; rw [if_pos h34]; rcases hax with rfl | rfl <;> simp
    · have := spn_le hax hp
      have h2 := plc_lt q (by lia : k ≤ sg.length)
      rw [h34, pc_34] at h2
      simp at h2
      lia
end Mine
open PySem PySem.W PyProof.Rows
set_option Elab.async false
set_option maxRecDepth 100000
set_option maxHeartbeats 1000000
set_option linter.unusedVariables false
set_option linter.unusedSimpArgs false
namespace Mine
variable {B : Bs}
/-- the last mirror ahead of a place, or -1 -/
noncomputable def bkm (sg : List Nat) : Nat → Int
  | 0 => -1
  | b + 1 => if isM (sg.getD b 0) = true then b else bkm sg b
theorem bkm_to {sg : List Nat} {b : Nat} : ∀ (d a : Nat), b + d = a → (∀ j, b ≤ j → j < a → isM (sg.getD j 0) = false) → bkm sg a = bkm sg b
  | 0, a, h, _ => by rw [← h]; rfl
  | d + 1, a, h, hj => by
    subst h
    have e : bkm sg (b + d + 1) = bkm sg (b + d) := by rw [bkm, if_neg (by rw [hj (b + d) (by lia) (by lia)]; decide)]
    rw [show b + (d + 1) = b + d + 1 from rfl, e]
    exact bkm_to d (b + d) rfl fun j a b => hj j a (by lia)
theorem isP_isM {c : Nat} (h : isP c = false) : isM c = false := by
  unfold isP at h
  cases hm : isM c with
  | false => rfl
  | true => rw [hm] at h; cases h
theorem cnt_step {sg : List Nat} {a k : Nat} (h : k < a) (h2 : a ≤ sg.length) : ((sg.take a).drop k).count 34 = (if sg.getD k 0 = 34 then 1 else 0) + ((sg.take a).drop (k + 1)).count 34 := by
  have hk : k < (sg.take a).length := by simp; lia
  rw [List.drop_eq_getElem_cons hk, List.count_cons]
  have e : (sg.take a)[k] = sg.getD k 0 := by simp [show k < sg.length from by lia]
  rw [e]
  by_cases q : sg.getD k 0 = 34
  · simp only [q, beq_self_eq_true, if_true]; lia
  · rw [if_neg (by simpa using q), if_neg q]; lia
theorem cnt_open {sg : List Nat} {a b : Nat} (h2 : a ≤ sg.length) (hb : b ≤ a) : ∀ (d k : Nat), k + d = b → (∀ j, k ≤ j → j < b → isP (sg.getD j 0) = false) → ((sg.take a).drop k).count 34 = ((sg.take a).drop b).count 34
  | 0, k, h, _ => by rw [← h]; rfl
  | d + 1, k, h, hj => by
    rw [cnt_step (by lia) h2, cnt_open h2 hb d (k + 1) (by lia) fun j a b => hj j (by lia) b]
    have := hj k (Nat.le_refl _) (by lia)
    rw [if_neg (by rintro q; rw [q] at this; cases this), Nat.zero_add]
theorem attr_notNone {F : Addr → Prop} {h : Heap} {v : Value} {name : Str} {P : Pd B} (x : (pattr (B := B) name P).p F h v) : (v == Value.none) = false := by
  obtain ⟨a, o, fd, d, m, w, rfl, _⟩ := x; rfl
theorem range_any {x y c : Int} {n : Nat} (hc : c = 1 ∨ c = -1) (hx : -900 ≤ x ∧ x ≤ 900) (hy : -900 ≤ y ∧ y ≤ 900) (hn : if c = 1 then y = x + n else y = x - n) : Builtin.Range.small x y c = true ∧ Builtin.Range.rangeSize x y c = n := by
  have e : Builtin.Range.rangeSize x y c = n := by
    unfold Builtin.Range.rangeSize
    rcases hc with rfl | rfl
    · simp only [if_true] at hn
      subst hn
      simp only [show (1 : Int) > 0 from by decide, if_true]
      split <;> lia
    · rw [if_neg (by decide)] at hn
      subst hn
      rw [if_neg (by decide), Int.neg_neg]
      split <;> lia
  refine ⟨?_, e⟩
  unfold Builtin.Range.small
  rw [e]
  have hn' : (n : Int) ≤ 2000 := by
    rcases hc with rfl | rfl
    · simp only [if_true] at hn; lia
    · rw [if_neg (by decide)] at hn; lia
  simp only [Bool.and_eq_true, Bool.or_eq_true]
  unfold Builtin.Range.rangeFitsLong
  simp only [Bool.and_eq_true, decide_eq_true_eq]
  rcases hc with rfl | rfl <;> refine ⟨⟨⟨⟨?_, ?_⟩, ?_⟩, ?_⟩, ?_⟩ <;> first | lia | (left; lia) | (right; rw [if_pos (by decide)]; simp only [Bool.and_eq_true, decide_eq_true_eq]; lia) | (right; rw [if_neg (by decide)]; simp only [Bool.and_eq_true, decide_eq_true_eq]; lia)
theorem range_to {n : Nat} (h : n ≤ 900) : Builtin.Range.small 0 (n : Int) 1 = true ∧ Builtin.Range.rangeSize 0 (n : Int) 1 = n := range_any (.inl rfl) (by decide) (by omega) (by rw [if_pos rfl]; omega)
noncomputable abbrev bkL (sg : List Nat) (a ax col : Nat) : List (String × Pd B) := [("at", pint (a : Int)), ("axis", pint (ax : Int)), ("text", ptx (lnT 97 sg)), ("starts", pd (.lst ((stsOf sg).map dN))), ("shown", ptx sg), ("col", pint (col : Int))]
theorem sts_ix {sg : List Nat} {k : Nat} (hk : k < sg.length) : (((stsOf sg).map fun (n : Nat) => (n : Int)))[k]? = some (plc sg k : Int) ∧ ∀ m, m < k → (((stsOf sg).map fun (n : Nat) => (n : Int)))[m]? ≠ some (plc sg k : Int) := by
  refine ⟨by rw [List.getElem?_map, (plc_spec (Nat.le_of_lt hk)).1]; rfl, fun m hm => ?_⟩
  rw [List.getElem?_map, (plc_spec (by lia : m ≤ sg.length)).1]
  have := plc_mono hm (Nat.le_of_lt hk)
  simp only [Option.map_some, ne_eq, Option.some.injEq]
  lia
theorem slc_mid' {l : List Nat} {p : Nat} {q : Int} {a : Nat} (h : q = p) : slc l (some q) (some (a : Int)) = (l.take a).drop p := by subst h; exact slc_mid
theorem back_loop (W : W1 B) {A : Around} {h₀ : Heap} (hr : Room 3 A) (hh : A.handled = none) {sg : List Nat} {a ax : Nat} (hax : ax = 0 ∨ ax = 1) (hl : sg.length ≤ 30) (hv : ∀ c ∈ sg, Sg c) (ha : a ≤ sg.length) :
    ∀ (n t b col : Nat), n + t = a + 1 → b + t ≤ a → ((sg.take a).drop b).count 34 = t → (∀ j, b ≤ j → j < a → isM (sg.getD j 0) = false) → (∃ o, sr ax (lnT 97 sg) col = o.map (spn ax sg) ∧ LastIn sg 0 b o) →
    Fo (C1 B A h₀ 95) (al (bkL sg a ax col)) (fun _ => none) (rints (t : Int) 1 n) (tgtS (nthS (bodyOf (K1 B) 95) 2)) (inS (nthS (bodyOf (K1 B) 95) 2)) (.ret (pint (bkm sg a)))
  | 0, t, b, col, hn, hbt, hc, hm, ho => absurd hn (by lia)
  | n + 1, t, b, col, hn, hbt, hc, hm, ho => by
    obtain ⟨o, ho, hlast⟩ := ho
    have hT := lnT_len sg 97
    have hz : sg.length ≤ sizeLine := Nat.le_trans hl (by decide)
    have hcall : Ex1 (C1 B A h₀ 95) (upd (al (bkL sg a ax col)) (Str.ofString "turn") (pint (t : Int))) (fun _ => none) (nthS (inS (nthS (bodyOf (K1 B) 95) 2)) 0) (.next (upd (upd (al (bkL sg a ax col)) (Str.ofString "turn") (pint (t : Int))) (Str.ofString "hit") (pres (sr ax (lnT 97 sg) col))) (fun _ => none)) := Ex1.assign (Ev.call (Ev.glob rfl (glob1 W.K rfl)) (EvL.cons (Ev.call (Ev.glob rfl (glob1 W.K rfl)) (EvL.cons (Ev.name rfl) EvL.nil) (fn_prog W ax) (hr.deeper.le (by decide)) hh) (EvL.cons (Ev.name rfl) (EvL.cons (Ev.name rfl) EvL.nil))) (fn_sr W ax (lnT 97 sg) col (by lia)) hr.deeper hh) (.inl rfl)
    have hbk := bkm_to (sg := sg) (a - b) a (by lia) hm
    rw [hbk]
    cases o with
    | none =>
      have hs : sr ax (lnT 97 sg) col = none := ho
      rw [hs] at hcall
      have hopen : ∀ k, k < b → isP (sg.getD k 0) = false := fun k hk => hlast k (Nat.zero_le _) hk
      have e1 : bkm sg b = -1 := bkm_to b b (Nat.zero_add _) fun j _ hj => isP_isM (hopen j hj)
      have e2 : ((sg.take a).drop 0).count 34 = t := by rw [cnt_open ha (by lia) b 0 (Nat.zero_add _) fun j _ hj => hopen j hj, hc]
      rw [e1]
      refine Fo.ret (Asg.name (.inl rfl)) (Ex.cons hcall ?_)
      refine Ex.cons (Ex1.assignT (P := pd (.tup [.int (-1), .int 0])) (Ev.ite (c := true) (EvT.cmp (Ev.isN (d := .none) (Ev.name rfl))) (fun _ => Ev.tuple (EvL.cons (Ev.neg Ev.int) (EvL.cons Ev.int EvL.nil))) (fun h => nomatch h)) (Asg.tuple hh (AsgL.cons (Asg.name (.inl rfl)) (AsgL.cons (Asg.name (.inl rfl)) AsgL.nil)))) ?_
      refine Ex.leave (Ex1.ite (c := true) (EvT.ic (Ev.name rfl) (Ev.add (Ev.name rfl) Ev.int) (by decide)) (fun _ => ?_) (fun h => nomatch h))
      refine Ex.cons (Ex1.assign (P := pint (-1)) (Ev.ite (c := true) (EvT.cmp (Ev.isN (d := .none) (Ev.name rfl))) (fun _ => Ev.neg Ev.int) (fun h => nomatch h)) (.inl rfl)) ?_
      refine Ex.leave (Ex1.ret (Ev.ite (c := true) (EvT.ic (Ev.countS (c := 34) (l := (sg.take a).drop 0) (Ev.castS (Ev.slS (a := some (-1 + 1)) (b := some (a : Int)) (Ev.name rfl) (Ev.add (Ev.name rfl) Ev.int) (Ev.name rfl) (by show (0 : Int) ≤ -1 + 1; decide) (by show (0 : Int) ≤ a; lia) hz) (slc_mid' (by lia))) Ev.tx (hr.deeper.le (by decide))) (Ev.name rfl) (by rw [e2]; simp [cmpI])) (fun _ => Ev.name rfl) (fun h => nomatch h)))
    | some k =>
      have hs : sr ax (lnT 97 sg) col = some (spn ax sg k) := ho
      rw [hs] at hcall
      obtain ⟨_, hkb, hkp, hkopen⟩ := hlast
      have hkl : k < sg.length := by lia
      have hcnt : ((sg.take a).drop (k + 1)).count 34 = t := by rw [cnt_open ha (by lia) (b - (k + 1)) (k + 1) (by lia) fun j h1 h2 => hkopen j (by lia) h2, hc]
      have hspan : ∀ {i j : Nat}, spn ax sg k = (i, j) → Ex1 (C1 B A h₀ 95) (upd (upd (al (bkL sg a ax col)) (Str.ofString "turn") (pint (t : Int))) (Str.ofString "hit") (pres (some (spn ax sg k)))) (fun _ => none) (nthS (inS (nthS (bodyOf (K1 B) 95) 2)) 1) (.next (upd (upd (upd (upd (al (bkL sg a ax col)) (Str.ofString "turn") (pint (t : Int))) (Str.ofString "hit") (pres (some (spn ax sg k)))) (Str.ofString "first") (pint (i : Int))) (Str.ofString "behind") (pint (j : Int))) (fun _ => none)) := fun {i j} e => by
        rw [e]
        exact Ex1.assignT (P := pd (.tup [.int i, .int j])) (Ev.ite (c := false) (EvT.cmp (Ev.isNone (P := phit i j) (Ev.name rfl) fun F h v x => attr_notNone x)) (fun h => nomatch h) (fun _ => Ev.callA (Q := pcall 1 [] (pd (.tup [.int i, .int j]))) (Ev.name rfl) (fun F h v x => x) EvL.nil (hr.deeper.le (by decide)) hh fn_noSpan)) (Asg.tuple hh (AsgL.cons (Asg.name (.inl rfl)) (AsgL.cons (Asg.name (.inl rfl)) AsgL.nil)))
      by_cases h34 : sg.getD k 0 = 34
      · have hm34 : isM (sg.getD k 0) = false := by rw [h34]; rfl
        have e1 : bkm sg b = bkm sg k := by
          refine bkm_to (b - k) b (by lia) fun j h1 h2 => ?_
          rcases Nat.eq_or_lt_of_le h1 with rfl | q
          · exact hm34
          · exact isP_isM (hkopen j q h2)
        have e2 : ((sg.take a).drop k).count 34 = t + 1 := by rw [cnt_step (by lia) ha, if_pos h34, hcnt]; lia
        have hlen : ((sg.take a).drop k).count 34 ≤ a - k := Nat.le_trans List.count_le_length (by simp; lia)
        have hm' : ∀ j, k ≤ j → j < a → isM (sg.getD j 0) = false := fun j h1 h2 => by
          rcases Nat.lt_or_ge j b with q | q
          · rcases Nat.eq_or_lt_of_le h1 with rfl | q'
            · exact hm34
            · exact isP_isM (hkopen j q' q)
          · exact hm j q h2
        have ih := back_loop W (h₀ := h₀) hr hh hax hl hv ha n (t + 1) k (plc sg k + 1) (by lia) (by lia) e2 hm' (sr_mid hax hv hkl h34)
        rw [bkm_to (sg := sg) (a - k) a (by lia) hm'] at ih
        rw [e1]
        generalize hsp : spn ax sg k = sp at hspan
        obtain ⟨i, j⟩ := sp
        have hij : j ≠ i + 1 ∧ (i + j) / 2 = plc sg k + 1 := by
          unfold spn spP at hsp
          rw [if_pos h34] at hsp
          simp only [Prod.mk.injEq] at hsp
          rcases hax with rfl | rfl <;> simp at hsp <;> lia
        refine Fo.next (Asg.name (.inl rfl)) (Ex.cons hcall (Ex.cons (hsp ▸ hspan rfl) ?_)) ih
        refine Ex.cons (Ex1.ite (c := false) (EvT.ic (Ev.name rfl) (Ev.add (Ev.name rfl) Ev.int) (by simp [cmpI]; lia)) (fun h => nomatch h) (fun _ => Ex.nil)) ?_
        exact Ex.to (Ex.cons (Ex1.assign (P := pint ((plc sg k + 1 : Nat) : Int)) (Ev.castI (Ev.fdiv (Ev.add (Ev.name rfl) (Ev.name rfl)) Ev.int (by decide) (by decide)) (by rw [Int.fdiv_eq_ediv_of_nonneg _ (by decide)]; lia)) (.inl rfl)) Ex.nil) (.next (by repeat (first | exact trivial | refine And.intro rfl ?_)))
      · have hmk : isM (sg.getD k 0) = true := by
          unfold isP at hkp
          rw [show decide (sg.getD k 0 = 34) = false from decide_eq_false h34, Bool.or_false] at hkp
          exact hkp
        have hsp : spn ax sg k = (plc sg k, plc sg k + 1) := by unfold spn spP; rw [if_neg h34]
        have e1 : bkm sg b = (k : Int) := by
          rw [bkm_to (b := k + 1) (b - (k + 1)) b (by lia) fun j h1 h2 => isP_isM (hkopen j (by lia) h2), bkm, if_pos hmk]
        rw [e1]
        obtain ⟨x1, x2⟩ := sts_ix hkl
        refine Fo.ret (Asg.name (.inl rfl)) (Ex.cons hcall (Ex.cons (hspan hsp) ?_))
        refine Ex.leave (Ex1.ite (c := true) (EvT.ic (Ev.name rfl) (Ev.add (Ev.name rfl) Ev.int) (by simp [cmpI])) (fun _ => ?_) (fun h => nomatch h))
        rw [hsp]
        refine Ex.cons (Ex1.assign (P := pint (k : Int)) (Ev.ite (c := false) (EvT.cmp (Ev.isNone (P := phit (plc sg k : Nat) ((plc sg k + 1 : Nat) : Int)) (Ev.name rfl) fun F h v x => attr_notNone x)) (fun h => nomatch h) (fun _ => Ev.index (l := ((stsOf sg).map fun (n : Nat) => (n : Int)).map .int) (Ev.castD (Ev.name rfl) (by simp [dN, List.map_map, Function.comp_def])) (Ev.name rfl) (fn_indexI _ (plc sg k : Int) k x1 x2 (by lia)) (hr.deeper.le (by decide)))) (.inl rfl)) ?_
        refine Ex.leave (Ex1.ret (Ev.ite (c := true) (EvT.ic (Ev.countS (c := 34) (l := (sg.take a).drop (k + 1)) (Ev.castS (Ev.slS (a := some ((k : Int) + 1)) (b := some (a : Int)) (Ev.name rfl) (Ev.add (Ev.name rfl) Ev.int) (Ev.name rfl) (by show (0 : Int) ≤ k + 1; lia) (by show (0 : Int) ≤ a; lia) hz) (slc_mid' (by lia))) Ev.tx (hr.deeper.le (by decide))) (Ev.name rfl) (by rw [hcnt]; simp [cmpI])) (fun _ => Ev.name rfl) (fun h => nomatch h)))
theorem fn_back (W : W1 B) (sg : List Nat) (a ax : Nat) (hax : ax = 0 ∨ ax = 1) (hl : sg.length ≤ 30) (hv : ∀ c ∈ sg, Sg c) (ha : a ≤ sg.length) : Fn B 3 (.ref 95) [pd (lineD sg), pint (a : Int), pint (ax : Int)] (pint (bkm sg a)) := by
  refine Fn.intro (xs := [Str.ofString "line", Str.ofString "at", Str.ofString "axis"]) (get_of W.K rfl rfl rfl rfl) ?_ rfl ?_
  · intro A h₀ hr hh hb
    obtain ⟨p1, p2, p3⟩ := plc_spec ha
    refine Ex.cons (Ex1.assignT (Ev.name rfl) (Asg.tuple hh (AsgL.cons (Asg.name (.inl rfl)) (AsgL.cons (Asg.name (.inl rfl)) (AsgL.cons (Asg.name (.inl rfl)) AsgL.nil))))) ?_
    refine Ex.cons (Ex1.assign (P := pint (plc sg a : Int)) (Ev.ixL (l := (stsOf sg).map dN) (k := (a : Int)) (Ev.name rfl) (Ev.name rfl) (by lia) (by lia) (by rw [Int.toNat_natCast, List.getElem?_map, p1]; rfl)) (.inl rfl)) ?_
    have hRS := range_any (x := ((0 : Nat) : Int)) (y := ((a + 1 : Nat) : Int)) (c := 1) (n := a + 1) (.inl rfl) (by lia) (by lia) (by rw [if_pos rfl]; lia)
    exact Ex.leave (Ex1.for (EvI.range (a := ((0 : Nat) : Int)) (c := 1) (n := a + 1) (Ev.call (H := anyH) (Ev.bltK W.K rfl (by rfl) (by kernel_rfl) (by decide) (by decide)) (EvL.cons (Ev.castI (j := ((a + 1 : Nat) : Int)) (Ev.add (Ev.name rfl) Ev.int) (by lia)) EvL.nil) (fn_range1 _) (hr.deeper.le (by decide)) trivial) hRS.1 hRS.2)
      (Fo.wk (l := bkL sg a ax (plc sg a)) (by repeat (first | exact trivial | refine And.intro rfl ?_)) (back_loop W hr hh hax hl hv ha (a + 1) 0 a (plc sg a) (by lia) (by lia) (by simp) (fun j h1 h2 => absurd h2 (by lia)) (sr_at hax hv ha))))
  · exact bind3 fun a b c => rfl
end Mine
open PySem PySem.W PyProof.Rows
set_option Elab.async false
set_option maxRecDepth 100000
set_option maxHeartbeats 1000000
set_option linter.unusedVariables false
set_option linter.unusedSimpArgs false
namespace Mine
variable {B : Bs}
theorem fn_answers (W : W1 B) (q T : List Nat) (hq : slc (q ++ [32, 34] ++ T) none (some 3) ≠ [50, 53, 55]) (hT : T.take 2 ≠ [32, 34]) (hz : q.length + T.length ≤ 200) : Fn B 2 (.ref 74) [ptx q, ptx T] (pbool true) := by
  refine Fn.intro (xs := [Str.ofString "other", Str.ofString "text"]) (get_of W.K rfl rfl rfl rfl) ?_ rfl ?_
  · intro A h₀ hr hh hb
    obtain ⟨l, hl⟩ := hr.frames
    have r0 : Room 0 (A.deeper (callEnv (fdOf (K1 B) 74) h₀.objs.size 74)) := hr.deeper.le (by decide)
    have r1 : Room 1 (A.deeper (callEnv (fdOf (K1 B) 74) h₀.objs.size 74)) := hr.deeper
    refine Ex.leave (Ex1.tryX (l := l) (R := mkS (q ++ [32, 34] ++ T)) (by show A.frames.map _ = _; rw [hl]; rfl) rfl (Ev.glob rfl (glob1 W.K rfl)) (Ev.catS (Ev.catS (Ev.name rfl) Ev.tx (by simp; lia)) (Ev.name rfl) (by simp; lia)) (fn_parseX W.K (q ++ [32, 34] ++ T) hq (by simp [sizeLine]; lia)) r1 hh (own1 W.K) (by kernel_rfl) (fun ea => ?_) (fun F h v x F' h' => by rw [bool_of x]; exact of_bool) rfl rfl)
    refine Ev.castB (i := (q ++ [32, 34] ++ T == q ++ [32, 34] ++ T) && (([] : List Nat) == [])) (Ev.and2 (Ev.eqS (i := q ++ [32, 34] ++ T) (j := q ++ [32, 34] ++ T) (Ev.call (H := anyH) (Ev.bltK W.K rfl (by rfl) (by kernel_rfl) (by decide) (by decide)) (EvL.cons (Ev.name rfl) EvL.nil) (fn_strE W.K (by kernel_rfl) (by kernel_rfl)) (Room.held r0) trivial) (Ev.catS (Ev.catS (Ev.name rfl) Ev.tx (by simp; lia)) (Ev.name rfl) (by simp; lia)))
      (fun _ => Ev.eqS (i := []) (j := []) (Ev.call (H := anyH) (Ev.glob rfl (glob1 W.K rfl)) (EvL.cons (Ev.catS (i := [50, 53, 55]) (Ev.tx) (Ev.name rfl) (by simp; lia)) EvL.nil) (fn_parse0 W.K ([50, 53, 55] ++ T) rfl ?_ (by simp [sizeLine]; lia)) (Room.held r1) trivial) Ev.tx)) (by simp)
    show (List.take 5 ([50, 53, 55] ++ T)).drop 3 ≠ [32, 34]
    simpa using hT
  · exact bind2 fun a b => rfl
theorem line_head {sg : List Nat} (hv : ∀ c ∈ sg, Sg c) : (lnT 97 sg).take 2 ≠ [32, 34] := by
  cases sg with
  | nil => simp [lnT]
  | cons s r =>
    have e : sep 97 s = [] := by simp [sep]
    simp only [lnT, e, List.nil_append]
    cases hp : isP s with
    | false =>
      have := open_of hp (hv s List.mem_cons_self)
      rw [pc_open hp]
      intro q
      have := congrArg List.head? q
      simp at this
      lia
    | true =>
      have : ∃ t, pc s = 34 :: t := by
        by_cases h34 : s = 34
        · subst h34; exact ⟨[34], rfl⟩
        · have hm : isM s = true := by
            unfold isP at hp
            rw [show decide (s = 34) = false from decide_eq_false h34, Bool.or_false] at hp
            exact hp
          exact ⟨[], pc_mir hm⟩
      obtain ⟨t, e⟩ := this
      rw [e]
      intro q
      have := congrArg List.head? q
      simp at this
end Mine
open PySem PySem.W PyProof.Rows
set_option Elab.async false
set_option maxRecDepth 100000
set_option maxHeartbeats 1000000
set_option linter.unusedVariables false
set_option linter.unusedSimpArgs false
namespace Mine
variable {B : Bs}
/-- the hall -/
structure Gr where
  R : Nat
  C : Nat
  cell : Nat → Nat → Nat
structure Gr.Ok (G : Gr) : Prop where
  r1 : 1 ≤ G.R
  r2 : G.R ≤ 10
  c1 : 1 ≤ G.C
  c2 : G.C ≤ 10
  sg : ∀ r c, Sg (G.cell r c)
/-- how many cells a line of this axis has -/
noncomputable def Gr.n (G : Gr) (ax : Nat) : Nat := if ax = 0 then G.C else G.R
noncomputable def Gr.at (G : Gr) (ax num k : Nat) : Nat := if ax = 0 then G.cell num k else G.cell k num
noncomputable def Gr.line (G : Gr) (ax num : Nat) : List Nat := (List.range (G.n ax)).map (G.at ax num)
noncomputable def Gr.linesD (G : Gr) : D := .lst [.lst ((List.range G.R).map fun r => lineD (G.line 0 r)), .lst ((List.range G.C).map fun c => lineD (G.line 1 c))]
theorem Gr.line_len (G : Gr) (ax num : Nat) : (G.line ax num).length = G.n ax := by simp [Gr.line]
theorem Gr.line_sg {G : Gr} (h : G.Ok) (ax num : Nat) : ∀ c ∈ G.line ax num, Sg c := fun c hc => by
  obtain ⟨k, _, rfl⟩ := List.mem_map.mp hc
  unfold Gr.at; split <;> exact h.sg _ _
theorem Gr.n_le {G : Gr} (h : G.Ok) (ax : Nat) : G.n ax ≤ 10 := by unfold Gr.n; split; exact h.c2; exact h.r2
theorem Gr.line_at {G : Gr} {ax num k : Nat} (h : k < G.n ax) : (G.line ax num)[k]? = some (G.at ax num k) := by simp [Gr.line, h]
theorem Gr.line_getD {G : Gr} {ax num k : Nat} (h : k < G.n ax) : (G.line ax num).getD k 0 = G.at ax num k := by rw [List.getD_eq_getElem?_getD, Gr.line_at h]; rfl
noncomputable def sI (f : Bool) : Int := if f then 1 else -1
noncomputable def ptI (ax num : Nat) (i : Int) : List Int := if ax = 0 then [(num : Int), i, 0] else [i, (num : Int), 1]
noncomputable def reachI (G : Gr) (ax : Nat) (fwd : Bool) (num a : Nat) : Int := if fwd then ((a + (run (G.line ax num) a).length : Nat) : Int) else bkm (G.line ax num) a
/-- how many cells are passed, from where on, and how -/
noncomputable def btN (fwd : Bool) (a : Nat) (reach : Int) : Nat := if fwd then (reach - a).toNat else ((a : Int) - 1 - reach).toNat
noncomputable def btX (fwd : Bool) (a : Nat) : Int := if fwd then a else (a : Int) - 1
noncomputable def btw (ax num : Nat) (fwd : Bool) (a : Nat) (reach : Int) : List (List Int) := (List.range (btN fwd a reach)).map fun (k : Nat) => ptI ax num (btX fwd a + sI fwd * (k : Int))
noncomputable def rayF (G : Gr) : Nat → Nat → Bool → Nat → Nat → List (List Int) → Option ((Nat × Bool × Nat) × List (List Int))
  | 0, _, _, _, _, _ => none
  | n + 1, ax, fwd, num, a, ps =>
    let reach := reachI G ax fwd num a
    let ps' := ps ++ btw ax num fwd a reach
    if reach = -1 ∨ reach = G.n ax then some ((ax, !fwd, num), ps')
    else
      let m := reach.toNat
      let fwd' := if G.at ax num m = 47 then !fwd else fwd
      rayF G n (1 - ax) fwd' m (if fwd' then num + 1 else num) ps'
noncomputable def outI (o : Nat × Bool × Nat) : List Int := [(o.1 : Int), sI o.2.1, (o.2.2 : Int)]
noncomputable def rayD (r : (Nat × Bool × Nat) × List (List Int)) : D := .tup [tI (outI r.1), .lst (r.2.map tI)]
theorem bkm_cases (sg : List Nat) : ∀ b, bkm sg b = -1 ∨ ∃ m, m < b ∧ bkm sg b = (m : Int) ∧ isM (sg.getD m 0) = true
  | 0 => .inl rfl
  | b + 1 => by
    unfold bkm
    cases h : isM (sg.getD b 0) with
    | true => exact .inr ⟨b, by lia, rfl, h⟩
    | false =>
      rcases bkm_cases sg b with q | ⟨m, h1, h2, h3⟩
      · exact .inl q
      · exact .inr ⟨m, by lia, h2, h3⟩
theorem run_next {sg : List Nat} {a : Nat} (h : a + (run sg a).length < sg.length) : isM (sg.getD (a + (run sg a).length) 0) = true := by
  have e := run_pre sg a
  have e2 : (sg.drop a).drop (run sg a).length = (sg.drop a).dropWhile (fun c => !isM c) := by
    conv => lhs; rw [← e]
    simp
  rw [List.drop_drop] at e2
  cases hd : sg.drop (a + (run sg a).length) with
  | nil => simp at hd; lia
  | cons c r =>
    have hg := (getElem_of_drop hd).1
    rw [List.getD_eq_getElem?_getD, hg]
    rw [hd] at e2
    show isM c = true
    have := List.head?_dropWhile_not (fun c => !isM c) (sg.drop a)
    rw [← e2] at this
    simpa using this
/-- where a ray comes to on a line -/
theorem reach_cases {G : Gr} {ax num a : Nat} {fwd : Bool} (ha : a ≤ G.n ax) : reachI G ax fwd num a = -1 ∨ reachI G ax fwd num a = G.n ax ∨ ∃ m, m < G.n ax ∧ reachI G ax fwd num a = (m : Int) ∧ isM (G.at ax num m) = true := by
  unfold reachI
  cases fwd with
  | true =>
    simp only [if_true]
    have h1 := run_len (G.line ax num) a
    rw [Gr.line_len] at h1
    by_cases h : a + (run (G.line ax num) a).length < G.n ax
    · have := run_next (sg := G.line ax num) (a := a) (by rw [Gr.line_len]; exact h)
      rw [Gr.line_getD h] at this
      exact .inr (.inr ⟨_, h, rfl, this⟩)
    · right; left; lia
  | false =>
    rw [if_neg (by decide)]
    rcases bkm_cases (G.line ax num) a with q | ⟨m, h1, h2, h3⟩
    · exact .inl q
    · rw [Gr.line_getD (by lia)] at h3
      exact .inr (.inr ⟨m, by lia, h2, h3⟩)
theorem bt_le {G : Gr} {ax num a : Nat} {fwd : Bool} (ha : a ≤ G.n ax) : btN fwd a (reachI G ax fwd num a) ≤ G.n ax ∧ -1 ≤ reachI G ax fwd num a ∧ (if fwd then (a : Int) ≤ reachI G ax fwd num a else reachI G ax fwd num a ≤ (a : Int) - 1) ∧ reachI G ax fwd num a ≤ G.n ax := by
  unfold btN reachI
  cases fwd with
  | true =>
    simp only [if_true]
    have h1 := run_len (G.line ax num) a
    rw [Gr.line_len] at h1
    omega
  | false =>
    simp only [Bool.false_eq_true, if_false]
    rcases bkm_cases (G.line ax num) a with q | ⟨m, h1, h2, h3⟩
    · rw [q]; omega
    · rw [h2]; omega
noncomputable def startN (G : Gr) (ax : Nat) (fwd : Bool) : Nat := if fwd then 0 else G.n ax
theorem rints_map (c : Int) : ∀ (n : Nat) (x : Int), rints (B := B) x c n = (List.range n).map fun (k : Nat) => pint (x + c * (k : Int))
  | 0, x => rfl
  | n + 1, x => by
    rw [rints, rints_map c n, List.range_succ_eq_map, List.map_cons, List.map_map]
    congr 1
    · simp
    · apply List.map_congr_left
      intro k _
      simp only [Function.comp]
      congr 1
      rw [show ((Nat.succ k : Nat) : Int) = (k : Int) + 1 from rfl, Int.mul_add]
      lia
end Mine
open PySem PySem.W PyProof.Rows
set_option Elab.async false
set_option maxRecDepth 100000
set_option maxHeartbeats 1000000
set_option linter.unusedVariables false
set_option linter.unusedSimpArgs false
namespace Mine
variable {B : Bs}
theorem Gr.lines_ix {G : Gr} {ax num : Nat} (hax : ax = 0 ∨ ax = 1) (hn : num < G.n (1 - ax)) : ∃ l, ([D.lst ((List.range G.R).map fun r => lineD (G.line 0 r)), .lst ((List.range G.C).map fun c => lineD (G.line 1 c))] : List D)[ax]? = some (.lst l) ∧ l[num]? = some (lineD (G.line ax num)) := by
  rcases hax with rfl | rfl
  · exact ⟨_, rfl, by have : num < G.R := hn; simp [this]⟩
  · exact ⟨_, rfl, by have : num < G.C := hn; simp [this]⟩
theorem Gr.lines_len {G : Gr} {ax : Nat} (hax : ax = 0 ∨ ax = 1) : ∃ l, ([D.lst ((List.range G.R).map fun r => lineD (G.line 0 r)), .lst ((List.range G.C).map fun c => lineD (G.line 1 c))] : List D)[1 - ax]? = some (.lst l) ∧ l.length = G.n ax := by
  rcases hax with rfl | rfl
  · exact ⟨_, rfl, by simp [Gr.n]⟩
  · exact ⟨_, rfl, by simp [Gr.n]⟩
noncomputable abbrev rayL (G : Gr) (ax : Nat) (fwd : Bool) (num at' : Nat) (a : Addr) : List (String × Pd B) := [("lines", pd G.linesD), ("axis", pint (ax : Int)), ("sense", pint (sI fwd)), ("number", pint (num : Int)), ("at", pint (at' : Int)), ("passed", pv (.ref a))]
theorem sI_eq (fwd : Bool) : cmpI .Eq (sI fwd) 1 = fwd := by cases fwd <;> rfl
theorem ax_int {ax : Nat} (h : ax = 0 ∨ ax = 1) : (0 : Int) ≤ ax ∧ (ax : Int) < 2 ^ 63 := by lia
theorem ax_flip {ax : Nat} (h : ax = 0 ∨ ax = 1) : 1 - ax = 0 ∨ 1 - ax = 1 := by lia
theorem ax_back {ax : Nat} (h : ax = 0 ∨ ax = 1) : 1 - (1 - ax) = ax := by lia
theorem ax_sub {ax : Nat} (h : ax = 0 ∨ ax = 1) : (1 : Int) - ax = ((1 - ax : Nat) : Int) := by lia
theorem sI_neg (f : Bool) : -(sI f) = sI (!f) := by cases f <;> rfl
theorem sI_cases (f : Bool) : sI f = 1 ∨ sI f = -1 := by cases f; exact .inr rfl; exact .inl rfl
theorem cmp_dec {i j : Int} : cmpI .Eq i j = decide (i = j) := by
  by_cases h : i = j <;> simp [cmpI, h]
/-- len(lines[1 - axis]) -/
theorem ray_len (W : W1 B) {G : Gr} (hG : G.Ok) {A : Around} {h₀ : Heap} (hr : Room 4 A) {ρ : Rho B} {μ : Mu B} {ax : Nat} (hax : ax = 0 ∨ ax = 1) (h1 : ρ (Str.ofString "lines") = some (pd G.linesD)) (h2 : ρ (Str.ofString "axis") = some (pint (ax : Int))) {np p1 p2 p3 p4 p5 p6 : Pos} {n1 : Nat} :
    Ev (C1 B A h₀ 100) ρ μ (.Call (.Name (Str.ofString "len") np) [.Subscript (.Name (Str.ofString "lines") p1) (.BinOp (.Constant (.int 1) n1 p2) .Sub (.Name (Str.ofString "axis") p3) p4) p5] [] p6) (pint (G.n ax : Int)) := by
  obtain ⟨l, h3, h4⟩ := Gr.lines_len (G := G) hax
  have := Gr.n_le hG ax
  rw [← h4]
  refine Ev.lenL W.K (Ev.ixL (l := [.lst ((List.range G.R).map fun r => lineD (G.line 0 r)), .lst ((List.range G.C).map fun c => lineD (G.line 1 c))]) (k := 1 - (ax : Int)) (Ev.name h1) (Ev.sub Ev.int (Ev.name h2)) (by lia) (by lia) ?_) (by lia) (hr.deeper.le (by decide)) rfl (by rfl)
  rw [show (1 - (ax : Int)).toNat = 1 - ax from by lia]; exact h3
theorem btX_fits {f : Bool} {a : Nat} (h : a ≤ 100) : -900 ≤ btX f a ∧ btX f a ≤ 900 := by cases f <;> simp [btX] <;> lia
theorem bt_end {fwd : Bool} {a : Nat} {reach : Int} (h : if fwd then (a : Int) ≤ reach else reach ≤ (a : Int) - 1) : if sI fwd = 1 then reach = btX fwd a + btN fwd a reach else reach = btX fwd a - btN fwd a reach := by
  cases fwd with
  | true => simp only [sI, btX, btN, if_true] at h ⊢; lia
  | false =>
    simp only [Bool.false_eq_true, if_false] at h
    simp only [sI, btX, btN, Bool.false_eq_true, if_false]
    rw [if_neg (by decide)]; lia
theorem ray_loop (W : W1 B) {G : Gr} (hG : G.Ok) {A : Around} {h₀ : Heap} (hr : Room 4 A) (hh : A.handled = none) {a : Addr} : ∀ (n ax num at' : Nat) (x : Int) (fwd : Bool) (ps : List (List Int)) (res : (Nat × Bool × Nat) × List (List Int)),
    (ax = 0 ∨ ax = 1) → num < G.n (1 - ax) → at' ≤ G.n ax → ps.length + 10 * n ≤ 100000 → rayF G n ax fwd num at' ps = some res →
    Fo (C1 B A h₀ 100) (al (rayL G ax fwd num at' a)) (updM (fun _ => none) a ((ps.map tI).map pd)) (rints x 1 n) (tgtS (nthS (bodyOf (K1 B) 100) 2)) (inS (nthS (bodyOf (K1 B) 100) 2)) (.ret (pd (rayD res)))
  | 0, ax, num, at', x, fwd, ps, res, hax, hnum, hat, hps, he => nomatch he
  | n + 1, ax, num, at', x, fwd, ps, res, hax, hnum, hat, hps, he => by
    obtain ⟨l, g1, g2⟩ := Gr.lines_ix hax hnum
    have hN := Gr.n_le hG ax
    have hN' := Gr.n_le hG (1 - ax)
    have f1 : (0 : Int) ≤ ax ∧ (ax : Int) < 2 ^ 63 := ax_int hax
    have f2 : (0 : Int) ≤ num ∧ (num : Int) < 2 ^ 63 := by lia
    have f3 : (G.line ax num).length ≤ 30 ∧ at' ≤ (G.line ax num).length := by rw [G.line_len]; lia
    have hll : (G.line ax num).length = G.n ax := G.line_len ax num
    have hlv := Gr.line_sg hG ax num
    have hbt := bt_le (G := G) (num := num) (fwd := fwd) hat
    have hrc := reach_cases (G := G) (num := num) (fwd := fwd) hat
    unfold rayF at he
    dsimp only at he
    have e0 : reachI G ax fwd num at' = if fwd then ((at' + (run (G.line ax num) at').length : Nat) : Int) else bkm (G.line ax num) at' := rfl
    generalize hR : reachI G ax fwd num at' = reach at he hbt hrc e0
    obtain ⟨hb1, hb2, hb3, hb4⟩ := hbt
    -- the walk of the first five statements
    have walk : ∀ {o : Out B}, Ex (C1 B A h₀ 100) (al (rayL G ax fwd num at' a ++ [("line", pd (lineD (G.line ax num))), ("reach", pint reach)])) (updM (fun _ => none) a (((ps ++ btw ax num fwd at' reach).map tI).map pd)) ((inS (nthS (bodyOf (K1 B) 100) 2)).drop 5) o →
        Ex (C1 B A h₀ 100) (upd (al (rayL G ax fwd num at' a)) (Str.ofString "turn") (pint x)) (updM (fun _ => none) a ((ps.map tI).map pd)) (inS (nthS (bodyOf (K1 B) 100) 2)) o := fun {o} kk => by
      refine Ex.cons (Ex1.assign (P := pd (lineD (G.line ax num))) (Ev.ixL (l := l) (k := (num : Int)) (Ev.ixL (l := [.lst ((List.range G.R).map fun r => lineD (G.line 0 r)), .lst ((List.range G.C).map fun c => lineD (G.line 1 c))]) (k := (ax : Int)) (Ev.name rfl) (Ev.name rfl) f1.1 f1.2 (by rw [Int.toNat_natCast]; exact g1)) (Ev.name rfl) f2.1 f2.2 (by rw [Int.toNat_natCast]; exact g2)) (.inl rfl)) ?_
      refine Ex.cons (Ex1.assign (P := pint reach) (Ev.ite (c := fwd) (EvT.ic (Ev.name rfl) Ev.int (sI_eq fwd)) (fun h => ?_) (fun h => ?_)) (.inl rfl)) ?_
      · rw [h, if_pos rfl] at e0
        rw [e0]
        exact Ev.call (H := fun x => x = none) (Ev.glob rfl (glob1 W.K rfl)) (EvL.cons (Ev.name rfl) (EvL.cons (Ev.name rfl) EvL.nil)) (fn_forth W (G.line ax num) at' f3.1 hlv f3.2) (hr.deeper.le (by decide)) hh
      · rw [h, if_neg (by decide)] at e0
        rw [e0]
        exact Ev.call (Ev.glob rfl (glob1 W.K rfl)) (EvL.cons (Ev.name rfl) (EvL.cons (Ev.name rfl) (EvL.cons (Ev.name rfl) EvL.nil))) (fn_back W (G.line ax num) at' ax hax f3.1 hlv f3.2) hr.deeper hh
      refine Ex.cons (Ex1.ite (c := false) (EvT.ic (Ev.name rfl) (Ev.neg Ev.int) (by simp [cmpI]; lia)) (fun h => nomatch h) (fun _ => Ex.nil)) ?_
      refine Ex.cons (Ex1.assign (P := prange (btX fwd at') reach (sI fwd)) (Ev.ite (c := fwd) (EvT.ic (Ev.name rfl) Ev.int (sI_eq fwd)) (fun h => ?_) (fun h => ?_)) (.inl rfl)) ?_
      · subst h
        exact Ev.call (H := anyH) (Ev.bltK W.K rfl (by rfl) (by kernel_rfl) (by decide) (by decide)) (EvL.cons (Ev.name rfl) (EvL.cons (Ev.name rfl) EvL.nil)) (fn_range2 _ _) (hr.deeper.le (by decide)) trivial
      · subst h
        exact Ev.call (H := anyH) (Ev.bltK W.K rfl (by rfl) (by kernel_rfl) (by decide) (by decide)) (EvL.cons (Ev.sub (Ev.name rfl) Ev.int) (EvL.cons (Ev.name rfl) (EvL.cons (Ev.neg Ev.int) EvL.nil))) (fn_range3 _ _ _ (by decide) (by decide)) (hr.deeper.le (by decide)) trivial
      have hrange := range_any (x := btX fwd at') (y := reach) (c := sI fwd) (n := btN fwd at' reach) (sI_cases fwd) (btX_fits (by lia)) (by lia) (bt_end hb3)
      refine Ex.cons (Ex1.augOwn (ds := (btw ax num fwd at' reach).map tI) rfl updM_self (Ev.castD (Ev.comp (ds := (List.range (btN fwd at' reach)).map fun (k : Nat) => tI (ptI ax num (btX fwd at' + sI fwd * (k : Int)))) hh (EvI.range (Ev.name rfl) hrange.1 hrange.2) (fun L h₀ => rints_map (B := B) (sI fwd) (btN fwd at' reach) (btX fwd at') ▸ CompT.map (List.range (btN fwd at' reach)) (fun (k : Nat) => pint (btX fwd at' + sI fwd * (k : Int))) _ (.inl rfl) fun k hk => ?_) (by rw [rints_map]; simp [sizeLine]; lia)) (by simp [btw, List.map_map, Function.comp_def])) (.inl rfl) (by simp [btw, sizeLine]; lia)) ?_
      · refine Ev.ite (c := decide (ax = 0)) (EvT.ic (Ev.name rfl) Ev.int (cmpE (b := 0))) (fun h => ?_) (fun h => ?_)
        · have h0 := of_decide_eq_true h
          subst h0
          exact Ev.tuple (ds := [.int num, .int (btX fwd at' + sI fwd * (k : Int)), .int 0]) (EvL.cons (Ev.name rfl) (EvL.cons (Ev.name rfl) (EvL.cons Ev.int EvL.nil)))
        · have h0 := of_decide_eq_false h
          have h1 : ax = 1 := hax.resolve_left h0
          subst h1
          exact Ev.tuple (ds := [.int (btX fwd at' + sI fwd * (k : Int)), .int num, .int 1]) (EvL.cons (Ev.name rfl) (EvL.cons (Ev.name rfl) (EvL.cons Ev.int EvL.nil)))
      rw [updM_updM]
      have e3 : (ps.map tI).map (pd (B := B)) ++ ((btw ax num fwd at' reach).map tI).map pd = ((ps ++ btw ax num fwd at' reach).map tI).map pd := by simp
      rw [e3]
      refine Ex.wk ?_ kk
      repeat (first | exact trivial | refine And.intro rfl ?_)
    by_cases hout : reach = -1 ∨ reach = G.n ax
    · rw [if_pos hout] at he
      cases he
      refine Fo.ret (Asg.name (.inl rfl)) (walk (Ex.leave (Ex1.ite (c := true) (EvT.cast (EvT.or2 (a := decide (reach = -1)) (b := decide (reach = G.n ax)) (EvT.ic (Ev.name rfl) (Ev.neg Ev.int) cmp_dec) (fun _ => EvT.ic (Ev.name rfl) (ray_len W hG hr hax rfl rfl) cmp_dec)) (by simpa using hout)) (fun _ => Ex.leave ?_) (fun h => nomatch h))))
      refine Ex1.retOwnT (d := tI (outI (ax, !fwd, num))) (ds := (ps ++ btw ax num fwd at' reach).map tI) (Ev.castD (Ev.tuple (ds := [.int ax, .int (-(sI fwd)), .int num]) (EvL.cons (Ev.name rfl) (EvL.cons (Ev.neg (Ev.name rfl)) (EvL.cons (Ev.name rfl) EvL.nil)))) ?_) (Ev.name rfl) updM_self
      rw [sI_neg]; rfl
    · rw [if_neg hout] at he
      obtain ⟨m, h1, h2, h3⟩ := (hrc.resolve_left fun q => hout (.inl q)).resolve_left fun q => hout (.inr q)
      subst h2
      rw [Int.toNat_natCast] at he
      have hm63 : (0 : Int) ≤ m ∧ (m : Int) < 2 ^ 63 := by lia
      have h47 : decide (G.at ax num m ∈ [47, 92]) = true := h3
      generalize hf' : (if G.at ax num m = 47 then !fwd else fwd) = fwd' at he
      have hnx : (if fwd' = true then num + 1 else num) ≤ G.n (1 - ax) := by split <;> lia
      have ih := ray_loop W hG (h₀ := h₀) hr hh (a := a) n (1 - ax) m (if fwd' = true then num + 1 else num) (x + 1) fwd' (ps ++ btw ax num fwd at' m) res (ax_flip hax) (by rw [ax_back hax]; exact h1) hnx (by simp [btw]; lia) he
      refine Fo.next (Asg.name (.inl rfl)) (walk (Ex.cons (Ex1.ite (c := false) (EvT.cast (EvT.or2 (a := decide ((m : Int) = -1)) (b := decide ((m : Int) = G.n ax)) (EvT.ic (Ev.name rfl) (Ev.neg Ev.int) cmp_dec) (fun _ => EvT.ic (Ev.name rfl) (ray_len W hG hr hax rfl rfl) cmp_dec)) (by simpa using hout)) (fun h => nomatch h) (fun _ => Ex.nil)) ?_)) ih
      refine Ex.cons (Ex1.assign (P := ptx [G.at ax num m]) (Ev.ixS (l := G.line ax num) (k := (m : Int)) (Ev.ixT (l := [.str (mkS (lnT 97 (G.line ax num))), .lst ((stsOf (G.line ax num)).map dN), .str (mkS (G.line ax num))]) (k := 2) (Ev.name rfl) Ev.int (by decide) (by decide) rfl) (Ev.name rfl) hm63.1 hm63.2 (by rw [Int.toNat_natCast]; exact Gr.line_at h1)) (.inl rfl)) ?_
      refine Ex.cons (Ex1.ite (c := false) (EvT.cast (EvT.cmp (Ev.ninS (x := [47, 92]) (Ev.name rfl) Ev.tx)) (by rw [h47]; rfl)) (fun h => nomatch h) (fun _ => Ex.nil)) ?_
      refine Ex.cons (Ex1.assign (P := pint (sI fwd')) (Ev.ite (c := decide (G.at ax num m = 47)) (EvT.eqc (i := [G.at ax num m]) (j := [47]) (Ev.name rfl) Ev.tx eqN) (fun h => ?_) (fun h => ?_)) (.inl rfl)) ?_
      · rw [if_pos (of_decide_eq_true h)] at hf'
        subst hf'
        exact Ev.castI (Ev.neg (Ev.name rfl)) (sI_neg fwd)
      · rw [if_neg (of_decide_eq_false h)] at hf'
        subst hf'
        exact Ev.name rfl
      refine Ex.cons (Ex1.assign (P := pint ((if fwd' = true then num + 1 else num : Nat) : Int)) (Ev.ite (c := fwd') (EvT.ic (Ev.name rfl) Ev.int (sI_eq fwd')) (fun h => ?_) (fun h => ?_)) (.inl rfl)) ?_
      · rw [if_pos h]; exact Ev.castI (Ev.add (Ev.name rfl) Ev.int) (by lia)
      · rw [h, if_neg (by decide)]; exact Ev.name rfl
      exact Ex.to (Ex.cons (Ex1.assignT (P := pd (.tup [.int ((1 - ax : Nat) : Int), .int (m : Int)])) (Ev.tuple (EvL.cons (Ev.castI (Ev.sub Ev.int (Ev.name rfl)) (ax_sub hax)) (EvL.cons (Ev.name rfl) EvL.nil))) (Asg.tuple hh (AsgL.cons (Asg.name (.inr ⟨rfl, rfl⟩)) (AsgL.cons (Asg.name (.inr ⟨rfl, rfl⟩)) AsgL.nil)))) Ex.nil) (.next (by repeat (first | exact trivial | refine And.intro rfl ?_)))
end Mine
open PySem PySem.W PyProof.Rows
set_option Elab.async false
set_option maxRecDepth 100000
set_option maxHeartbeats 1000000
set_option linter.unusedVariables false
set_option linter.unusedSimpArgs false
namespace Mine
variable {B : Bs}
theorem bits_small : ∀ n : Nat, n < 12 → Builtin.Int.intBits (n : Int) ≤ 64 := by decide +kernel
theorem turns_fit {R C : Nat} (h1 : R ≤ 10) (h2 : C ≤ 10) : 4 * R * C ≤ 400 := by
  have := Nat.mul_le_mul (Nat.mul_le_mul (Nat.le_refl 4) h1) h2
  omega
theorem fn_ray (W : W1 B) {G : Gr} (hG : G.Ok) {ax num : Nat} {fwd : Bool} (hax : ax = 0 ∨ ax = 1) (hnum : num < G.n (1 - ax)) {res : (Nat × Bool × Nat) × List (List Int)} (he : rayF G (4 * G.R * G.C + 1) ax fwd num (startN G ax fwd) [] = some res) :
    Fn B 4 (.ref 100) [pd G.linesD, pint (ax : Int), pint (sI fwd), pint (num : Int)] (pd (rayD res)) := by
  refine Fn.intro (xs := [Str.ofString "lines", Str.ofString "axis", Str.ofString "sense", Str.ofString "number"]) (get_of W.K rfl rfl rfl rfl) ?_ rfl ?_
  · intro A h₀ hr hh hb
    have hT := turns_fit hG.r2 hG.c2
    have hN := Gr.n_le hG ax
    refine Ex.cons (Ex1.assign (P := pint (startN G ax fwd : Int)) (Ev.ite (c := fwd) (EvT.ic (Ev.name rfl) Ev.int (sI_eq fwd)) (fun h => ?_) (fun h => ?_)) (.inl rfl)) ?_
    · subst h; exact Ev.int
    · subst h; exact ray_len W hG hr hax rfl rfl
    refine Ex.own (EvN.list EvL.nil (by simp [sizeLine])) (.inl rfl) fun a _ => ?_
    have hrange := range_any (x := 0) (y := ((4 * G.R * G.C + 1 : Nat) : Int)) (c := 1) (n := 4 * G.R * G.C + 1) (.inl rfl) (by lia) (by lia) (by rw [if_pos rfl]; lia)
    refine Ex.leave (Ex1.for (EvI.range (a := 0) (c := 1) (n := 4 * G.R * G.C + 1) (Ev.call (H := anyH) (Ev.bltK W.K rfl (by rfl) (by kernel_rfl) (by decide) (by decide)) (EvL.cons (Ev.castI (j := ((4 * G.R * G.C + 1 : Nat) : Int)) (Ev.add (Ev.mul (Ev.mul Ev.int (Ev.lenL W.K (Ev.ixL (l := [.lst ((List.range G.R).map fun r => lineD (G.line 0 r)), .lst ((List.range G.C).map fun c => lineD (G.line 1 c))]) (k := 0) (Ev.name rfl) Ev.int (by decide) (by decide) rfl) ?_ (hr.deeper.le (by decide)) rfl (by rfl)) (IntMulOk.of_left (by decide +kernel)))
      (Ev.lenL W.K (Ev.ixL (l := [.lst ((List.range G.R).map fun r => lineD (G.line 0 r)), .lst ((List.range G.C).map fun c => lineD (G.line 1 c))]) (k := 1) (Ev.name rfl) Ev.int (by decide) (by decide) rfl) ?_ (hr.deeper.le (by decide)) rfl (by rfl)) (IntMulOk.of_right (bits_small _ ?_))) Ev.int) ?_) EvL.nil) (fn_range1 _) (hr.deeper.le (by decide)) trivial) hrange.1 hrange.2)
      (Fo.wk (l := rayL G ax fwd num (startN G ax fwd) a) (by repeat (first | exact trivial | refine And.intro rfl ?_)) (ray_loop W hG hr hh (4 * G.R * G.C + 1) ax num (startN G ax fwd) 0 fwd [] res hax hnum (by unfold startN; split; lia; exact Nat.le_refl _) (by simp; lia) he)))
    · have := hG.r2; simp; lia
    · have := hG.c2; simp; lia
    · have := hG.c2; simp; lia
    · simp [Int.natCast_add, Int.natCast_mul]
  · exact bind4 fun a b c d => rfl
end Mine
open PySem PySem.W PyProof.Rows
set_option Elab.async false
set_option maxRecDepth 100000
set_option maxHeartbeats 1000000
set_option linter.unusedVariables false
set_option linter.unusedSimpArgs false
namespace Mine
/-- a place on a cell's edge, and a direction -/
structure Ed where
  ax : Nat
  num : Nat
  a : Nat
  fwd : Bool
theorem Ed.ext' {e f : Ed} (h1 : e.ax = f.ax) (h2 : e.num = f.num) (h3 : e.a = f.a) (h4 : e.fwd = f.fwd) : e = f := by
  cases e; cases f; simp_all
noncomputable def Ed.rev (e : Ed) : Ed := ⟨e.ax, e.num, e.a, !e.fwd⟩
theorem Ed.rev_rev (e : Ed) : e.rev.rev = e := by cases e; simp [Ed.rev]
theorem Ed.rev_ne (e : Ed) : e.rev ≠ e := fun h => by
  have := congrArg Ed.fwd h
  simp [Ed.rev] at this
variable {G : Gr}
structure Ed.V (G : Gr) (e : Ed) : Prop where
  ax : e.ax = 0 ∨ e.ax = 1
  num : e.num < G.n (1 - e.ax)
  a : e.a ≤ G.n e.ax
theorem Ed.V.rev {e : Ed} (h : e.V G) : e.rev.V G := ⟨h.ax, h.num, h.a⟩
/-- is there a cell ahead? -/
noncomputable def Ed.Inn (G : Gr) (e : Ed) : Prop := if e.fwd then e.a < G.n e.ax else 0 < e.a
/-- the cell ahead -/
noncomputable def Ed.k (e : Ed) : Nat := if e.fwd then e.a else e.a - 1
noncomputable def Ed.s (G : Gr) (e : Ed) : Nat := G.at e.ax e.num e.k
noncomputable def Ed.turn (G : Gr) (e : Ed) : Bool := if e.s G = 47 then !e.fwd else e.fwd
noncomputable def Ed.step (G : Gr) (e : Ed) : Ed :=
  if isM (e.s G) = true then ⟨1 - e.ax, e.k, if e.turn G then e.num + 1 else e.num, e.turn G⟩ else ⟨e.ax, e.num, if e.fwd then e.a + 1 else e.a - 1, e.fwd⟩
noncomputable def Ed.pas (G : Gr) (e : Ed) : List (List Int) := if isM (e.s G) = true then [] else [ptI e.ax e.num (e.k : Int)]
theorem at_swap (ax x y : Nat) (h : ax = 0 ∨ ax = 1) : G.at (1 - ax) x y = G.at ax y x := by
  rcases h with rfl | rfl <;> simp [Gr.at]
theorem Ed.k_lt {e : Ed} (h : e.V G) (hi : e.Inn G) : e.k < G.n e.ax := by
  have := h.a
  unfold Ed.Inn at hi
  unfold Ed.k
  split <;> simp_all <;> omega
/-- the four ways into a cell -/
theorem dirs {e : Ed} (hV : e.V G) (hi : e.Inn G) : ∃ r c, r < G.R ∧ c < G.C ∧ (e = ⟨0, r, c, true⟩ ∨ e = ⟨0, r, c + 1, false⟩ ∨ e = ⟨1, c, r, true⟩ ∨ e = ⟨1, c, r + 1, false⟩) := by
  have hk := Ed.k_lt hV hi
  have hn := hV.num
  have hax := hV.ax
  clear hV
  obtain ⟨ax, num, a, fwd⟩ := e
  unfold Ed.Inn at hi
  unfold Ed.k at hk
  rcases hax with q | q <;> simp only at q <;> subst q
  · cases fwd with
    | true => exact ⟨num, a, hn, hk, .inl rfl⟩
    | false =>
      cases a with
      | zero => exact absurd hi (Nat.lt_irrefl 0)
      | succ a => exact ⟨num, a, hn, hk, .inr (.inl rfl)⟩
  · cases fwd with
    | true => exact ⟨a, num, hk, hn, .inr (.inr (.inl rfl))⟩
    | false =>
      cases a with
      | zero => exact absurd hi (Nat.lt_irrefl 0)
      | succ a => exact ⟨a, num, hk, hn, .inr (.inr (.inr rfl))⟩
/-- what a step does, straight, at the one mirror and at the other -/
theorem step_str {e : Ed} (h : isM (e.s G) = false) : e.step G = ⟨e.ax, e.num, if e.fwd then e.a + 1 else e.a - 1, e.fwd⟩ := by unfold Ed.step; rw [h]; rfl
theorem step_up {e : Ed} (h : e.s G = 47) : e.step G = ⟨1 - e.ax, e.k, if (!e.fwd) = true then e.num + 1 else e.num, !e.fwd⟩ := by unfold Ed.step Ed.turn; rw [h]; rfl
theorem step_dn {e : Ed} (h : e.s G = 92) : e.step G = ⟨1 - e.ax, e.k, if e.fwd = true then e.num + 1 else e.num, e.fwd⟩ := by unfold Ed.step Ed.turn; rw [h]; rfl
theorem V0 {r c : Nat} {f : Bool} (hr : r < G.R) (hc : c ≤ G.C) : (⟨0, r, c, f⟩ : Ed).V G := ⟨.inl rfl, hr, hc⟩
theorem V1 {r c : Nat} {f : Bool} (hc : c < G.C) (hr : r ≤ G.R) : (⟨1, c, r, f⟩ : Ed).V G := ⟨.inr rfl, hc, hr⟩
theorem Ed.V.step {e : Ed} (h : e.V G) (hi : e.Inn G) : (e.step G).V G := by
  obtain ⟨r, c, hr, hc, he⟩ := dirs h hi
  clear h hi
  cases hm : isM (e.s G) with
  | false =>
    rw [step_str hm]
    rcases he with rfl | rfl | rfl | rfl
    · exact V0 hr hc
    · exact V0 hr (Nat.le_of_lt hc)
    · exact V1 hc hr
    · exact V1 hc (Nat.le_of_lt hr)
  | true =>
    rcases isM_iff.mp hm with q | q
    · rw [step_up q]
      rcases he with rfl | rfl | rfl | rfl
      · exact V1 hc (Nat.le_of_lt hr)
      · exact V1 hc hr
      · exact V0 hr (Nat.le_of_lt hc)
      · exact V0 hr hc
    · rw [step_dn q]
      rcases he with rfl | rfl | rfl | rfl
      · exact V1 hc hr
      · exact V1 hc (Nat.le_of_lt hr)
      · exact V0 hr hc
      · exact V0 hr (Nat.le_of_lt hc)
/-- back through a cell -/
theorem Ed.back {e : Ed} (h : e.V G) (hi : e.Inn G) : (e.step G).rev.Inn G ∧ (e.step G).rev.s G = e.s G ∧ (e.step G).rev.step G = e.rev ∧ (e.step G).rev.pas G = e.pas G := by
  obtain ⟨r, c, hr, hc, he⟩ := dirs h hi
  clear h hi
  cases hm : isM (e.s G) with
  | false =>
    rw [step_str hm]
    rcases he with rfl | rfl | rfl | rfl
    · exact ⟨Nat.succ_pos c, rfl, step_str hm, rfl⟩
    · exact ⟨hc, rfl, step_str hm, rfl⟩
    · exact ⟨Nat.succ_pos r, rfl, step_str hm, rfl⟩
    · exact ⟨hr, rfl, step_str hm, rfl⟩
  | true =>
    have hp : ∀ {f : Ed}, isM (f.s G) = true → f.pas G = [] := fun {f} q => if_pos q
    rw [hp hm]
    rcases isM_iff.mp hm with q | q
    · rw [step_up q]
      rcases he with rfl | rfl | rfl | rfl
      · exact ⟨hr, rfl, step_up q, hp hm⟩
      · exact ⟨Nat.succ_pos r, rfl, step_up q, hp hm⟩
      · exact ⟨hc, rfl, step_up q, hp hm⟩
      · exact ⟨Nat.succ_pos c, rfl, step_up q, hp hm⟩
    · rw [step_dn q]
      rcases he with rfl | rfl | rfl | rfl
      · exact ⟨Nat.succ_pos r, rfl, step_dn q, hp hm⟩
      · exact ⟨hr, rfl, step_dn q, hp hm⟩
      · exact ⟨Nat.succ_pos c, rfl, step_dn q, hp hm⟩
      · exact ⟨hc, rfl, step_dn q, hp hm⟩
/-- the i-th place of the way -/
noncomputable def Ed.it (G : Gr) (e : Ed) : Nat → Ed
  | 0 => e
  | i + 1 => (e.it G i).step G
theorem Ed.it_V {e : Ed} (h : e.V G) : ∀ {i : Nat}, (∀ j, j < i → (e.it G j).Inn G) → (e.it G i).V G
  | 0, _ => h
  | i + 1, hj => (Ed.it_V h fun j q => hj j (by lia)).step (hj i (by lia))
theorem Ed.step_inj {e f : Ed} (he : e.V G) (hi : e.Inn G) (hf : f.V G) (hj : f.Inn G) (h : e.step G = f.step G) : e = f := by
  have h1 := (Ed.back he hi).2.2.1
  have h2 := (Ed.back hf hj).2.2.1
  rw [h] at h1
  have := h1.symm.trans h2
  rw [← e.rev_rev, this, f.rev_rev]
/-- a way from the rim never comes twice to a place -/
theorem Ed.it_ne {e : Ed} (h : e.V G) (h0 : ¬ e.rev.Inn G) : ∀ (i j : Nat), i < j → (∀ k, k < j → (e.it G k).Inn G) → e.it G i ≠ e.it G j
  | _, 0, hij, _ => absurd hij (Nat.not_lt_zero _)
  | 0, j + 1, _, hk => fun q => by
    have := (Ed.back (Ed.it_V h fun k hk' => hk k (by omega)) (hk j (by omega))).1
    have q' : e = (e.it G j).step G := q
    rw [← q'] at this
    exact h0 this
  | i + 1, j + 1, hij, hk => fun q => by
    have q' : (e.it G i).step G = (e.it G j).step G := q
    exact Ed.it_ne h h0 i j (by omega) (fun k hk' => hk k (by omega)) (Ed.step_inj (Ed.it_V h fun k hk' => hk k (by omega)) (hk i (by omega)) (Ed.it_V h fun k hk' => hk k (by omega)) (hk j (by omega)) q')
end Mine
open PySem PySem.W PyProof.Rows
set_option Elab.async false
set_option maxRecDepth 100000
set_option maxHeartbeats 1000000
set_option linter.unusedVariables false
set_option linter.unusedSimpArgs false
namespace Mine
variable {G : Gr}
/-- a way that comes out at last -/
structure Way (G : Gr) (e : Ed) (L : Nat) : Prop where
  inn : ∀ i, i < L → (e.it G i).Inn G
  out : ¬ (e.it G L).Inn G
noncomputable def told (G : Gr) (e : Ed) (L : Nat) : List (List Int) := ((List.range L).map fun i => (e.it G i).pas G).flatten
theorem it_add (e : Ed) (i : Nat) : ∀ j, e.it G (i + j) = (e.it G i).it G j
  | 0 => rfl
  | j + 1 => by
    show (e.it G (i + j)).step G = ((e.it G i).it G j).step G
    rw [it_add e i j]
theorem flat_add {α : Type} (p : Nat → List α) (i : Nat) : ∀ j, ((List.range (i + j)).map p).flatten = ((List.range i).map p).flatten ++ ((List.range j).map fun k => p (i + k)).flatten
  | 0 => by simp
  | j + 1 => by
    rw [← Nat.add_assoc, List.range_succ, List.range_succ, List.map_append, List.map_append, List.flatten_append, List.flatten_append, flat_add p i j]
    simp
theorem told_add (e : Ed) (i j : Nat) : told G e (i + j) = told G e i ++ told G (e.it G i) j := by
  unfold told
  rw [flat_add]
  simp only [it_add]
theorem flat_rev {α : Type} : ∀ (L : Nat) (p q : Nat → List α), (∀ i, i < L → p i = q (L - 1 - i)) → (∀ i, i < L → (q i).reverse = q i) → ((List.range L).map p).flatten = ((List.range L).map q).flatten.reverse
  | 0, _, _, _, _ => rfl
  | L + 1, p, q, h, hr => by
    rw [show ((List.range (L + 1)).map q).flatten = ((List.range L).map q).flatten ++ q L from by rw [List.range_succ]; simp]
    rw [List.reverse_append, hr L (by lia), ← flat_rev L (fun i => p (i + 1)) q (fun i hi => by rw [h (i + 1) (by lia)]; congr 1; lia) fun i hi => hr i (by lia)]
    rw [List.range_succ_eq_map, List.map_cons, List.flatten_cons, List.map_map, h 0 (by lia)]
    rfl
theorem pas_rev (e : Ed) : (e.pas G).reverse = e.pas G := by unfold Ed.pas; split <;> rfl
section
variable {e : Ed} {L : Nat}
theorem Way.V (w : Way G e L) (h : e.V G) {i : Nat} (hi : i ≤ L) : (e.it G i).V G := Ed.it_V h fun j hj => w.inn j (by lia)
theorem Way.rev_it (w : Way G e L) (h : e.V G) : ∀ j, j ≤ L → ((e.it G L).rev).it G j = (e.it G (L - j)).rev
  | 0, _ => rfl
  | j + 1, hj => by
    show (((e.it G L).rev).it G j).step G = _
    rw [Way.rev_it w h j (by omega), show L - j = (L - (j + 1)) + 1 from by omega]
    exact (Ed.back (w.V h (by omega)) (w.inn _ (by omega))).2.2.1
theorem Way.rev (w : Way G e L) (h : e.V G) (h0 : ¬ e.rev.Inn G) : Way G (e.it G L).rev L where
  inn i hi := by
    rw [w.rev_it h i (by lia), show L - i = (L - (i + 1)) + 1 from by lia]
    exact (Ed.back (w.V h (by lia)) (w.inn _ (by lia))).1
  out := by rw [w.rev_it h L (Nat.le_refl _), Nat.sub_self]; exact h0
theorem Way.rev_end (w : Way G e L) (h : e.V G) : (((e.it G L).rev).it G L).rev = e := by rw [w.rev_it h L (Nat.le_refl _), Nat.sub_self, Ed.rev_rev]; rfl
theorem Way.rev_told (w : Way G e L) (h : e.V G) : told G (e.it G L).rev L = (told G e L).reverse := by
  unfold told
  refine flat_rev L _ _ (fun i hi => ?_) fun i _ => pas_rev _
  rw [w.rev_it h i (by lia), show L - i = (L - 1 - i) + 1 from by lia]
  exact (Ed.back (w.V h (by lia)) (w.inn _ (by lia))).2.2.2
theorem step_ne_rev (e : Ed) (h : e.ax = 0 ∨ e.ax = 1) : e.step G ≠ e.rev := fun q => by
  unfold Ed.step at q
  split at q
  · have := congrArg Ed.ax q
    have q' : 1 - e.ax = e.ax := this
    omega
  · have := congrArg Ed.fwd q
    simp [Ed.rev] at this
/-- a ray does not come out where it went in -/
theorem Way.ne (w : Way G e L) (h : e.V G) : (e.it G L).rev ≠ e := fun q => by
  have r := fun j hj => (w.rev_it h j hj)
  rw [q] at r
  rcases Nat.mod_two_eq_zero_or_one L with m | m
  · have := r (L / 2) (by omega)
    rw [show L - L / 2 = L / 2 from by omega] at this
    exact Ed.rev_ne _ this.symm
  · have := r (L / 2 + 1) (by omega)
    rw [show L - (L / 2 + 1) = L / 2 from by omega] at this
    exact step_ne_rev _ (w.V h (by omega : L / 2 ≤ L)).ax this
end
/-- straight on -/
theorem seg_it {ax num a : Nat} {fwd : Bool} : ∀ d, (∀ j, j < d → (if fwd then a + j < G.n ax ∧ isM (G.at ax num (a + j)) = false else j < a ∧ isM (G.at ax num (a - 1 - j)) = false)) →
    Ed.it G ⟨ax, num, a, fwd⟩ d = ⟨ax, num, if fwd then a + d else a - d, fwd⟩ ∧ (∀ j, j < d → (Ed.it G ⟨ax, num, a, fwd⟩ j).Inn G) ∧ told G ⟨ax, num, a, fwd⟩ d = (List.range d).map fun (k : Nat) => ptI ax num (btX fwd a + sI fwd * (k : Int))
  | 0, h => ⟨by cases fwd <;> rfl, fun j hj => absurd hj (Nat.not_lt_zero _), rfl⟩
  | d + 1, h => by
    obtain ⟨h1, h2, h3⟩ := seg_it (ax := ax) (num := num) (a := a) (fwd := fwd) d fun j hj => h j (by lia)
    have hd := h d (by lia)
    have hs : (Ed.s G (Ed.it G ⟨ax, num, a, fwd⟩ d)) = G.at ax num (if fwd then a + d else a - 1 - d) := by
      rw [h1]; unfold Ed.s Ed.k; cases fwd <;> simp
      congr 1; lia
    have hk : (Ed.k (Ed.it G ⟨ax, num, a, fwd⟩ d)) = (if fwd then a + d else a - 1 - d) := by
      rw [h1]; unfold Ed.k; cases fwd <;> simp
      lia
    have hm : isM (Ed.s G (Ed.it G ⟨ax, num, a, fwd⟩ d)) = false := by
      rw [hs]; cases fwd
      · simp only [Bool.false_eq_true, if_false] at hd ⊢; exact hd.2
      · simp only [if_true] at hd ⊢; exact hd.2
    refine ⟨?_, fun j hj => ?_, ?_⟩
    · show Ed.step G (Ed.it G ⟨ax, num, a, fwd⟩ d) = _
      unfold Ed.step
      rw [hm, if_neg (by decide), h1]
      cases fwd
      · simp only [Bool.false_eq_true, if_false] at hd ⊢
        congr 1
      · rfl
    · rcases Nat.lt_or_ge j d with q | q
      · exact h2 j q
      · have : j = d := by lia
        subst this
        rw [h1]; unfold Ed.Inn
        cases fwd
        · simp only [Bool.false_eq_true, if_false] at hd ⊢; lia
        · simp only [if_true] at hd ⊢; exact hd.1
    · rw [told_add ⟨ax, num, a, fwd⟩ d 1, h3, List.range_succ, List.map_append]
      congr 1
      have : told G (Ed.it G ⟨ax, num, a, fwd⟩ d) 1 = (Ed.it G ⟨ax, num, a, fwd⟩ d).pas G := by simp [told, Ed.it]
      rw [this]
      unfold Ed.pas
      rw [hm, if_neg (by decide), hk, h1]
      simp only [List.map_cons, List.map_nil, List.cons.injEq, and_true]
      congr 1
      cases fwd
      · simp only [Bool.false_eq_true, if_false, btX, sI] at hd ⊢; lia
      · simp only [if_true, btX, sI]; lia
theorem run_open {sg : List Nat} {a j : Nat} (h : j < (run sg a).length) : a + j < sg.length ∧ isM (sg.getD (a + j) 0) = false := by
  have h1 := run_len sg a
  have e : sg.getD (a + j) 0 = (run sg a)[j] := by
    have e1 : (sg.drop a)[j]? = some (run sg a)[j] := by
      rw [← run_pre sg a, List.getElem?_append_left h]; simp
    rw [List.getElem?_drop] at e1
    rw [List.getD_eq_getElem?_getD, e1]; rfl
  refine ⟨by omega, ?_⟩
  rw [e]
  have := List.all_takeWhile (p := fun c => !isM c) (l := sg.drop a)
  rw [List.all_eq_true] at this
  have this' : (!isM (run sg a)[j]) = true := this _ (List.getElem_mem (l := (sg.drop a).takeWhile fun c => !isM c) h)
  simpa using this'
theorem bkm_open {sg : List Nat} : ∀ {b j : Nat}, j < b → bkm sg b < (j : Int) → isM (sg.getD j 0) = false
  | b + 1, j, h, h2 => by
    unfold bkm at h2
    cases hm : isM (sg.getD b 0) with
    | true => rw [hm, if_pos rfl] at h2; lia
    | false =>
      rw [hm, if_neg (by decide)] at h2
      rcases Nat.lt_or_ge j b with q | q
      · exact bkm_open q h2
      · have : j = b := by lia
        subst this; exact hm
/-- what lies between a place and where its line's telling ends is straight -/
theorem seg_ok {ax num a : Nat} {fwd : Bool} (ha : a ≤ G.n ax) : ∀ j, j < btN fwd a (reachI G ax fwd num a) → (if fwd then a + j < G.n ax ∧ isM (G.at ax num (a + j)) = false else j < a ∧ isM (G.at ax num (a - 1 - j)) = false) := by
  intro j hj
  cases fwd with
  | true =>
    simp only [if_true]
    unfold btN reachI at hj
    simp only [if_true] at hj
    obtain ⟨h1, h2⟩ := run_open (sg := G.line ax num) (a := a) (j := j) (by lia)
    rw [Gr.line_len] at h1
    rw [Gr.line_getD h1] at h2
    exact ⟨h1, h2⟩
  | false =>
    simp only [Bool.false_eq_true, if_false]
    have hb := bt_le (G := G) (num := num) (fwd := false) ha
    simp only [Bool.false_eq_true, if_false] at hb
    unfold btN at hj
    simp only [Bool.false_eq_true, if_false] at hj
    have hja : j < a := by lia
    refine ⟨hja, ?_⟩
    have hk : a - 1 - j < G.n ax := by lia
    have := bkm_open (sg := G.line ax num) (b := a) (j := a - 1 - j) (by lia) (by
      have e : reachI G ax false num a = bkm (G.line ax num) a := rfl
      rw [e] at hj
      lia)
    rw [Gr.line_getD hk] at this
    exact this
end Mine
open PySem PySem.W PyProof.Rows
set_option Elab.async false
set_option maxRecDepth 100000
set_option maxHeartbeats 1000000
set_option linter.unusedVariables false
set_option linter.unusedSimpArgs false
namespace Mine
variable {G : Gr}
/-- to where a line's telling ends -/
theorem seg_end {ax num a : Nat} {fwd : Bool} (ha : a ≤ G.n ax) (d : Nat) (hd : d = btN fwd a (reachI G ax fwd num a)) :
    ((reachI G ax fwd num a = -1 ∨ reachI G ax fwd num a = G.n ax) → ¬ (Ed.it G ⟨ax, num, a, fwd⟩ d).Inn G) ∧
    (∀ m : Nat, reachI G ax fwd num a = (m : Int) → m < G.n ax → isM (G.at ax num m) = true → (Ed.it G ⟨ax, num, a, fwd⟩ d).Inn G ∧ (Ed.it G ⟨ax, num, a, fwd⟩ d).pas G = [] ∧
      (Ed.it G ⟨ax, num, a, fwd⟩ d).step G = ⟨1 - ax, m, if (if G.at ax num m = 47 then !fwd else fwd) = true then num + 1 else num, if G.at ax num m = 47 then !fwd else fwd⟩) := by
  obtain ⟨h1, h2, h3⟩ := seg_it (ax := ax) (num := num) (a := a) (fwd := fwd) d (by rw [hd]; exact seg_ok ha)
  have hb := bt_le (G := G) (num := num) (fwd := fwd) ha
  generalize reachI G ax fwd num a = reach at hd hb
  obtain ⟨_, hb2, hb3, hb4⟩ := hb
  rw [h1]
  constructor
  · intro hx
    unfold Ed.Inn
    unfold btN at hd
    cases fwd with
    | true => simp only [if_true] at hd hb3 ⊢; omega
    | false => simp only [Bool.false_eq_true, if_false] at hd hb3 ⊢; omega
  · intro m hm hmn hmm
    subst hm
    have hk : Ed.k ⟨ax, num, if fwd then a + d else a - d, fwd⟩ = m := by
      unfold btN at hd
      unfold Ed.k
      cases fwd with
      | true => simp only [if_true] at hd hb3 ⊢; omega
      | false => simp only [Bool.false_eq_true, if_false] at hd hb3 ⊢; omega
    have hs : Ed.s G ⟨ax, num, if fwd then a + d else a - d, fwd⟩ = G.at ax num m := by unfold Ed.s; rw [hk]
    refine ⟨?_, ?_, ?_⟩
    · unfold Ed.Inn
      unfold btN at hd
      cases fwd with
      | true => simp only [if_true] at hd hb3 ⊢; omega
      | false => simp only [Bool.false_eq_true, if_false] at hd hb3 ⊢; omega
    · unfold Ed.pas; rw [hs, if_pos hmm]
    · unfold Ed.step Ed.turn; rw [hs, if_pos hmm, hk]
theorem told_succ (e : Ed) (d : Nat) : told G e (d + 1) = told G e d ++ (e.it G d).pas G := by
  rw [told_add e d 1]
  congr 1
  simp [told, Ed.it]
theorem ray_way : ∀ (n ax num a : Nat) (fwd : Bool) (ps : List (List Int)) (res : (Nat × Bool × Nat) × List (List Int)), (⟨ax, num, a, fwd⟩ : Ed).V G → rayF G n ax fwd num a ps = some res →
    ∃ L, Way G ⟨ax, num, a, fwd⟩ L ∧ res = (((Ed.it G ⟨ax, num, a, fwd⟩ L).ax, !(Ed.it G ⟨ax, num, a, fwd⟩ L).fwd, (Ed.it G ⟨ax, num, a, fwd⟩ L).num), ps ++ told G ⟨ax, num, a, fwd⟩ L)
  | 0, _, _, _, _, _, _, _, he => nomatch he
  | n + 1, ax, num, a, fwd, ps, res, hV, he => by
    have ha : a ≤ G.n ax := hV.a
    obtain ⟨s1, s2⟩ := seg_end (G := G) (num := num) (fwd := fwd) ha _ rfl
    obtain ⟨h1, h2, h3⟩ := seg_it (G := G) (ax := ax) (num := num) (a := a) (fwd := fwd) _ (seg_ok ha)
    have hrc := reach_cases (G := G) (num := num) (fwd := fwd) ha
    unfold rayF at he
    dsimp only at he
    have hbw : btw ax num fwd a (reachI G ax fwd num a) = told G ⟨ax, num, a, fwd⟩ (btN fwd a (reachI G ax fwd num a)) := h3.symm
    rw [hbw] at he
    generalize btN fwd a (reachI G ax fwd num a) = d at s1 s2 h1 h2 h3 hbw he
    by_cases hout : reachI G ax fwd num a = -1 ∨ reachI G ax fwd num a = G.n ax
    · rw [if_pos hout] at he
      cases he
      refine ⟨d, ⟨h2, s1 hout⟩, ?_⟩
      rw [h1]
    · rw [if_neg hout] at he
      obtain ⟨m, g1, g2, g3⟩ := (hrc.resolve_left fun q => hout (.inl q)).resolve_left fun q => hout (.inr q)
      rw [g2, Int.toNat_natCast] at he
      obtain ⟨t1, t2, t3⟩ := s2 m g2 g1 g3
      have hV' : (Ed.it G ⟨ax, num, a, fwd⟩ d).V G := Ed.it_V hV h2
      have hV2 := hV'.step t1
      rw [t3] at hV2
      obtain ⟨L, w, hr⟩ := ray_way n (1 - ax) m _ _ _ res hV2 he
      rw [← t3] at w hr
      have e1 : ∀ i, Ed.it G ((Ed.it G ⟨ax, num, a, fwd⟩ d).step G) i = Ed.it G ⟨ax, num, a, fwd⟩ (d + 1 + i) := fun i => (it_add _ (d + 1) i).symm
      refine ⟨d + 1 + L, ⟨fun i hi => ?_, by rw [← e1]; exact w.out⟩, ?_⟩
      · rcases Nat.lt_or_ge i d with q | q
        · exact h2 i q
        · rcases Nat.eq_or_lt_of_le q with rfl | q'
          · exact t1
          · rw [show i = d + 1 + (i - (d + 1)) from by omega, ← e1]
            exact w.inn _ (by omega)
      · rw [hr, e1, told_add _ (d + 1) L, told_succ, t2, List.append_nil]
        simp [Ed.it]
theorem mul_lt {x y C R : Nat} (hx : x < R) (hy : y < C) : x * C + y < R * C := by
  have : (x + 1) * C ≤ R * C := Nat.mul_le_mul_right C hx
  rw [Nat.add_mul] at this
  omega
theorem mul_inj {x y x' y' C : Nat} (hy : y < C) (hy' : y' < C) (h : x * C + y = x' * C + y') : x = x' ∧ y = y' := by
  have h1 : (x * C + y) / C = x := by rw [Nat.mul_comm, Nat.mul_add_div (by lia), Nat.div_eq_of_lt hy]; rfl
  have h2 : (x' * C + y') / C = x' := by rw [Nat.mul_comm, Nat.mul_add_div (by lia), Nat.div_eq_of_lt hy']; rfl
  rw [h] at h1
  have : x = x' := h1.symm.trans h2
  subst this
  exact ⟨rfl, by lia⟩
/-- a number for each way into a cell -/
noncomputable def Ed.code (G : Gr) (e : Ed) : Nat := (if e.ax = 0 then e.num * G.C + e.k else e.k * G.C + e.num) * 4 + (e.ax * 2 + (if e.fwd then 1 else 0))
noncomputable def dirE : Nat → Nat → Nat → Ed
  | 0, r, c => ⟨0, r, c + 1, false⟩
  | 1, r, c => ⟨0, r, c, true⟩
  | 2, r, c => ⟨1, c, r + 1, false⟩
  | _, r, c => ⟨1, c, r, true⟩
theorem code_dir {e : Ed} (h : e.V G) (hi : e.Inn G) : ∃ r c d, r < G.R ∧ c < G.C ∧ d < 4 ∧ e = dirE d r c ∧ e.code G = (r * G.C + c) * 4 + d := by
  obtain ⟨r, c, hr, hc, he⟩ := dirs h hi
  rcases he with rfl | rfl | rfl | rfl
  · exact ⟨r, c, 1, hr, hc, by decide, rfl, rfl⟩
  · exact ⟨r, c, 0, hr, hc, by decide, rfl, rfl⟩
  · exact ⟨r, c, 3, hr, hc, by decide, rfl, rfl⟩
  · exact ⟨r, c, 2, hr, hc, by decide, rfl, rfl⟩
theorem four_lt {n d N : Nat} (h : n < N) (hd : d < 4) : n * 4 + d < N * 4 := by lia
theorem four_inj {n d n' d' : Nat} (hd : d < 4) (hd' : d' < 4) (h : n * 4 + d = n' * 4 + d') : n = n' ∧ d = d' := by lia
theorem Ed.code_lt {e : Ed} (h : e.V G) (hi : e.Inn G) : e.code G < 4 * G.R * G.C := by
  obtain ⟨r, c, d, hr, hc, hd, _, q⟩ := code_dir h hi
  rw [q, Nat.mul_assoc, Nat.mul_comm 4]
  exact four_lt (mul_lt hr hc) hd
theorem Ed.code_inj {e f : Ed} (h : e.V G) (hi : e.Inn G) (h' : f.V G) (hi' : f.Inn G) (hc : e.code G = f.code G) : e = f := by
  obtain ⟨r, c, d, _, h1, h2, q1, q2⟩ := code_dir h hi
  obtain ⟨r', c', d', _, h1', h2', q1', q2'⟩ := code_dir h' hi'
  obtain ⟨a, rfl⟩ := four_inj h2 h2' (q2.symm.trans (hc.trans q2'))
  obtain ⟨rfl, rfl⟩ := mul_inj h1 h1' a
  exact q1.trans q1'.symm
theorem pigeon : ∀ (N : Nat) (l : List Nat), l.Nodup → (∀ x ∈ l, x < N) → l.length ≤ N
  | 0, l, _, h => by
    cases l with
    | nil => exact Nat.le_refl _
    | cons x l => exact absurd (h x List.mem_cons_self) (Nat.not_lt_zero _)
  | N + 1, l, hn, h => by
    have h1 := pigeon N (l.erase N) (hn.erase N) fun x hx => by
      have h2 := h x (List.mem_of_mem_erase hx)
      have h3 : x ≠ N := fun q => by
        rw [q] at hx
        exact (hn.not_mem_erase) hx
      lia
    by_cases hm : N ∈ l
    · rw [List.length_erase_of_mem hm] at h1; lia
    · rw [List.erase_of_not_mem hm] at h1; lia
/-- a ray comes out -/
theorem ray_some {e : Ed} (h : e.V G) (h0 : ¬ e.rev.Inn G) : ∀ (n i : Nat) (vis : List Nat) (ps : List (List Int)), (∀ j, j < i → (e.it G j).Inn G) → vis.Nodup → (∀ c ∈ vis, ∃ j, j < i ∧ c = (e.it G j).code G) → vis.length + n = 4 * G.R * G.C + 1 →
    ∃ res, rayF G n (e.it G i).ax (e.it G i).fwd (e.it G i).num (e.it G i).a ps = some res
  | 0, i, vis, ps, hi, hn, hv, hl => by
    have := pigeon (4 * G.R * G.C) vis hn fun c hc => by
      obtain ⟨j, hj, rfl⟩ := hv c hc
      exact Ed.code_lt (Ed.it_V h fun k hk => hi k (by lia)) (hi j hj)
    lia
  | n + 1, i, vis, ps, hi, hn, hv, hl => by
    have hV : (e.it G i).V G := Ed.it_V h hi
    have ih := fun i' vis' ps' => ray_some h h0 n i' vis' ps'
    have e1 : ∀ d, (e.it G i).it G d = e.it G (i + d) := fun d => (it_add e i d).symm
    generalize hx : e.it G i = x at hV e1
    obtain ⟨ax, num, a, fwd⟩ := x
    have ha : a ≤ G.n ax := hV.a
    obtain ⟨s1, s2⟩ := seg_end (G := G) (num := num) (fwd := fwd) ha _ rfl
    obtain ⟨h1, h2, h3⟩ := seg_it (G := G) (ax := ax) (num := num) (a := a) (fwd := fwd) _ (seg_ok ha)
    have hrc := reach_cases (G := G) (num := num) (fwd := fwd) ha
    unfold rayF
    dsimp only
    generalize btN fwd a (reachI G ax fwd num a) = d at s1 s2 h1 h2 h3
    by_cases hout : reachI G ax fwd num a = -1 ∨ reachI G ax fwd num a = G.n ax
    · rw [if_pos hout]; exact ⟨_, rfl⟩
    · rw [if_neg hout]
      obtain ⟨m, g1, g2, g3⟩ := (hrc.resolve_left fun q => hout (.inl q)).resolve_left fun q => hout (.inr q)
      obtain ⟨t1, t2, t3⟩ := s2 m g2 g1 g3
      rw [g2, Int.toNat_natCast]
      rw [e1] at t1 t3
      have hinn : ∀ j, j < i + d + 1 → (e.it G j).Inn G := fun j hj => by
        rcases Nat.lt_or_ge j i with q | q
        · exact hi j q
        · rcases Nat.lt_or_ge j (i + d) with q' | q'
          · have := h2 (j - i) (by lia)
            rw [e1, show i + (j - i) = j from by lia] at this
            exact this
          · rw [show j = i + d from by lia]; exact t1
      have hres := ih (i + d + 1) ((e.it G (i + d)).code G :: vis) (ps ++ btw ax num fwd a (m : Int)) hinn (List.nodup_cons.mpr ⟨fun hc => ?_, hn⟩) (fun c hc => ?_) (by simp only [List.length_cons]; lia)
      · have e2 : e.it G (i + d + 1) = ⟨1 - ax, m, if (if G.at ax num m = 47 then !fwd else fwd) = true then num + 1 else num, if G.at ax num m = 47 then !fwd else fwd⟩ := t3
        rw [e2] at hres
        exact hres
      · obtain ⟨j, hj, hc⟩ := hv _ hc
        have := Ed.code_inj (Ed.it_V h fun k hk => hinn k (by lia)) t1 (Ed.it_V h fun k hk => hinn k (by lia)) (hinn j (by lia)) hc
        exact Ed.it_ne h h0 j (i + d) (by lia) (fun k hk => hinn k (by lia)) this.symm
      · rcases List.mem_cons.mp hc with rfl | hc
        · exact ⟨i + d, by lia, rfl⟩
        · obtain ⟨j, hj, rfl⟩ := hv c hc
          exact ⟨j, by lia, rfl⟩
end Mine
open PySem PySem.W PyProof.Rows
set_option Elab.async false
set_option maxRecDepth 100000
set_option maxHeartbeats 1000000
set_option linter.unusedVariables false
set_option linter.unusedSimpArgs false
namespace Mine
variable {G : Gr}
/-- the way comes to this edge -/
noncomputable def OnW (G : Gr) (a₀ : Ed) (L : Nat) (ax num a : Nat) : Prop := ∃ i, i ≤ L ∧ (a₀.it G i).ax = ax ∧ (a₀.it G i).num = num ∧ (a₀.it G i).a = a
noncomputable abbrev OnE (G : Gr) (a₀ : Ed) (L : Nat) (e : Ed) : Prop := OnW G a₀ L e.ax e.num e.a
section
variable {a₀ : Ed} {L : Nat}
theorem on_cases {e : Ed} (h : OnE G a₀ L e) : ∃ i, i ≤ L ∧ (e = a₀.it G i ∨ e = (a₀.it G i).rev) := by
  obtain ⟨i, hi, h1, h2, h3⟩ := h
  refine ⟨i, hi, ?_⟩
  cases hf : e.fwd <;> cases hg : (a₀.it G i).fwd
  · exact .inl (Ed.ext' h1.symm h2.symm h3.symm (hf.trans hg.symm))
  · exact .inr (Ed.ext' h1.symm h2.symm h3.symm (by simp [Ed.rev, hf, hg]))
  · exact .inr (Ed.ext' h1.symm h2.symm h3.symm (by simp [Ed.rev, hf, hg]))
  · exact .inl (Ed.ext' h1.symm h2.symm h3.symm (hf.trans hg.symm))
theorem on_step (w : Way G a₀ L) (h : a₀.V G) (h0 : ¬ a₀.rev.Inn G) {e : Ed} (hi : e.Inn G) (ho : OnE G a₀ L e) : OnE G a₀ L (e.step G) := by
  obtain ⟨i, hiL, rfl | rfl⟩ := on_cases ho
  · have : i ≠ L := fun q => w.out (q ▸ hi)
    exact ⟨i + 1, by lia, rfl, rfl, rfl⟩
  · cases i with
    | zero => exact absurd hi h0
    | succ i =>
      have := (Ed.back (w.V h (by lia : i ≤ L)) (w.inn i (by lia))).2.2.1
      have e1 : (a₀.it G (i + 1)).rev.step G = (a₀.it G i).rev := this
      rw [e1]
      exact ⟨i, by lia, rfl, rfl, rfl⟩
/-- a ray that comes in and out elsewhere never meets the way's edges -/
theorem on_apart {b₀ : Ed} {K : Nat} (w : Way G a₀ L) (h : a₀.V G) (h0 : ¬ a₀.rev.Inn G) (v : Way G b₀ K) (hne1 : (b₀.it G K).rev ≠ a₀) (hne2 : b₀.it G K ≠ a₀.it G L) : ∀ i, i ≤ K → ¬ OnE G a₀ L (b₀.it G i) := by
  have last : ¬ OnE G a₀ L (b₀.it G K) := fun ho => by
    obtain ⟨i, hi, q | q⟩ := on_cases ho
    · have : i = L := by
        rcases Nat.eq_or_lt_of_le hi with q' | q'
        · exact q'
        · exact absurd (q ▸ w.inn i q') v.out
      exact hne2 (this ▸ q)
    · cases i with
      | zero => exact hne1 (by rw [q, Ed.rev_rev]; rfl)
      | succ i => exact v.out (q ▸ (Ed.back (w.V h (by lia : i ≤ L)) (w.inn i (by lia))).1)
  have main : ∀ d i, i + d = K → ¬ OnE G a₀ L (b₀.it G i) := by
    intro d
    induction d with
    | zero => intro i hd; rw [show i = K from by lia]; exact last
    | succ d ih => exact fun i hd ho => ih (i + 1) (by lia) (on_step w h h0 (v.inn i (by lia)) ho)
  exact fun i hi => main (K - i) i (by lia)
/-- on the rim the way comes to its two ends alone -/
theorem on_rim (w : Way G a₀ L) (h : a₀.V G) (h0 : ¬ a₀.rev.Inn G) {e : Ed} (he : ¬ e.rev.Inn G) : OnE G a₀ L e ↔ (e = a₀ ∨ e = (a₀.it G L).rev) := by
  constructor
  · intro ho
    obtain ⟨i, hi, rfl | rfl⟩ := on_cases ho
    · cases i with
      | zero => exact .inl rfl
      | succ i => exact absurd (Ed.back (w.V h (by lia : i ≤ L)) (w.inn i (by lia))).1 he
    · rw [Ed.rev_rev] at he
      right
      rcases Nat.eq_or_lt_of_le hi with q | q
      · rw [q]
      · exact absurd (w.inn i q) he
  · rintro (rfl | rfl)
    · exact ⟨0, Nat.zero_le _, rfl, rfl, rfl⟩
    · exact ⟨L, Nat.le_refl _, rfl, rfl, rfl⟩
theorem ptI_inj {ax ax' x y x' y' : Nat} (h : ax = 0 ∨ ax = 1) (h' : ax' = 0 ∨ ax' = 1) (e : ptI ax x (y : Int) = ptI ax' x' (y' : Int)) : ax = ax' ∧ x = x' ∧ y = y' := by
  rcases h with rfl | rfl <;> rcases h' with rfl | rfl <;> simp [ptI] at e ⊢ <;> lia
theorem told_mem {p : List Int} : p ∈ told G a₀ L ↔ ∃ i, i < L ∧ p ∈ (a₀.it G i).pas G := by
  unfold told
  simp only [List.mem_flatten, List.mem_map, List.mem_range]
  constructor
  · rintro ⟨l, ⟨i, hi, rfl⟩, hp⟩; exact ⟨i, hi, hp⟩
  · rintro ⟨i, hi, hp⟩; exact ⟨_, ⟨i, hi, rfl⟩, hp⟩
/-- the way goes straight through a cell if it comes to the edge -/
theorem on_told (w : Way G a₀ L) (h : a₀.V G) (h0 : ¬ a₀.rev.Inn G) {ax num k : Nat} (hax : ax = 0 ∨ ax = 1) (hk : k < G.n ax) (hs : isM (G.at ax num k) = false) : OnW G a₀ L ax num k ↔ ptI ax num (k : Int) ∈ told G a₀ L := by
  have hp : Ed.pas G ⟨ax, num, k, true⟩ = [ptI ax num (k : Int)] := by
    unfold Ed.pas Ed.s Ed.k
    simp only [if_true]
    rw [hs]; rfl
  have hinn : Ed.Inn G ⟨ax, num, k, true⟩ := by unfold Ed.Inn; simpa using hk
  constructor
  · intro ho
    rw [told_mem]
    obtain ⟨i, hi, q | q⟩ := on_cases (e := ⟨ax, num, k, true⟩) ho
    · refine ⟨i, ?_, by rw [← q, hp]; exact List.mem_singleton_self _⟩
      rcases Nat.eq_or_lt_of_le hi with q' | q'
      · rw [q] at hinn; rw [q'] at hinn; exact absurd hinn w.out
      · exact q'
    · cases i with
      | zero => rw [q] at hinn; exact absurd hinn h0
      | succ i =>
        have := (Ed.back (w.V h (by lia : i ≤ L)) (w.inn i (by lia))).2.2.2
        have e1 : ((a₀.it G (i + 1)).rev).pas G = (a₀.it G i).pas G := this
        refine ⟨i, by lia, ?_⟩
        rw [← e1, ← q, hp]; exact List.mem_singleton_self _
  · intro hm
    rw [told_mem] at hm
    obtain ⟨i, hi, hp'⟩ := hm
    have hV := w.V h (Nat.le_of_lt hi)
    unfold Ed.pas at hp'
    cases hmm : isM ((a₀.it G i).s G) with
    | true => rw [hmm, if_pos rfl] at hp'; cases hp'
    | false =>
      rw [hmm, if_neg (by decide), List.mem_singleton] at hp'
      obtain ⟨q1, q2, q3⟩ := ptI_inj hax hV.ax hp'
      cases hf : (a₀.it G i).fwd with
      | true =>
        refine ⟨i, Nat.le_of_lt hi, q1.symm, q2.symm, ?_⟩
        rw [q3]; unfold Ed.k; rw [hf]; rfl
      | false =>
        have hst : (a₀.it G (i + 1)) = ⟨(a₀.it G i).ax, (a₀.it G i).num, (a₀.it G i).a - 1, false⟩ := by
          show (a₀.it G i).step G = _
          unfold Ed.step
          rw [hmm, if_neg (by decide), hf]; rfl
        refine ⟨i + 1, hi, ?_, ?_, ?_⟩
        · rw [hst]; exact q1.symm
        · rw [hst]; exact q2.symm
        · rw [hst, q3]; unfold Ed.k; rw [hf]; rfl
end
/-- the colours of the corners -/
noncomputable def colT (α : Nat → Nat → Nat → Bool) : Nat → Bool
  | 0 => false
  | j + 1 => colT α j ^^ α 1 j 0
noncomputable def col (α : Nat → Nat → Nat → Bool) : Nat → Nat → Bool
  | 0, j => colT α j
  | i + 1, j => col α i j ^^ α 0 i j
/-- α is even about each cell -/
structure Even (G : Gr) (α : Nat → Nat → Nat → Bool) : Prop where
  str : ∀ r c, r < G.R → c < G.C → isM (G.cell r c) = false → α 0 r c = α 0 r (c + 1) ∧ α 1 c r = α 1 c (r + 1)
  up : ∀ r c, r < G.R → c < G.C → G.cell r c = 47 → α 0 r c = α 1 c r ∧ α 0 r (c + 1) = α 1 c (r + 1)
  dn : ∀ r c, r < G.R → c < G.C → G.cell r c = 92 → α 0 r c = α 1 c (r + 1) ∧ α 0 r (c + 1) = α 1 c r
theorem Even.sum {α : Nat → Nat → Nat → Bool} (h : Even G α) {r c : Nat} (hr : r < G.R) (hc : c < G.C) : (α 0 r c ^^ α 1 c (r + 1)) = (α 1 c r ^^ α 0 r (c + 1)) := by
  cases hm : isM (G.cell r c) with
  | false =>
    obtain ⟨h1, h2⟩ := h.str r c hr hc hm
    rw [h1, h2, Bool.xor_comm]
  | true =>
    rcases isM_iff.mp hm with q | q
    · obtain ⟨h1, h2⟩ := h.up r c hr hc q
      rw [h1, h2]
    · obtain ⟨h1, h2⟩ := h.dn r c hr hc q
      rw [h1, h2, Bool.xor_self, Bool.xor_self]
theorem col_h {α : Nat → Nat → Nat → Bool} (h : Even G α) : ∀ (i : Nat) {j : Nat}, i ≤ G.R → j < G.C → col α i (j + 1) = (col α i j ^^ α 1 j i)
  | 0, _, _, _ => rfl
  | i + 1, j, hi, hj => by
    show (col α i (j + 1) ^^ α 0 i (j + 1)) = ((col α i j ^^ α 0 i j) ^^ α 1 j (i + 1))
    rw [col_h h i (by lia) hj, Bool.xor_assoc, Bool.xor_assoc, h.sum (by lia) hj]
noncomputable def colE (α : Nat → Nat → Nat → Bool) (e : Ed) : Bool := if e.ax = 0 then col α e.num e.a else col α e.a e.num
noncomputable def cross (G : Gr) (α : Nat → Nat → Nat → Bool) (e : Ed) : Bool := !isM (e.s G) && α (1 - e.ax) e.k e.num
theorem xf {a : Bool} : (a ^^ false) = a := by cases a <;> rfl
theorem cross_str {α : Nat → Nat → Nat → Bool} {e : Ed} (h : isM (e.s G) = false) : cross G α e = α (1 - e.ax) e.k e.num := by unfold cross; rw [h]; rfl
theorem cross_mir {α : Nat → Nat → Nat → Bool} {e : Ed} (h : isM (e.s G) = true) : cross G α e = false := by unfold cross; rw [h]; rfl
theorem xz {a b c : Bool} (h : a = (b ^^ c)) (hc : c = false) : a = b := by rw [h, hc, xf]
theorem xs {a b c : Bool} (h : a = (b ^^ c)) : b = (a ^^ c) := by rw [h, Bool.xor_assoc, Bool.xor_self, xf]
/-- through a cell, whose edges are no edges of α's -/
theorem col_step {α : Nat → Nat → Nat → Bool} (h : Even G α) {e : Ed} (hV : e.V G) (hi : e.Inn G) (h1 : α e.ax e.num e.a = false) (h2 : α (e.step G).ax (e.step G).num (e.step G).a = false) : colE α (e.step G) = (colE α e ^^ cross G α e) := by
  obtain ⟨r, c, hr, hc, he⟩ := dirs hV hi
  clear hV hi
  have v0 : col α (r + 1) c = (col α r c ^^ α 0 r c) := rfl
  have v1 : col α (r + 1) (c + 1) = (col α r (c + 1) ^^ α 0 r (c + 1)) := rfl
  have g0 := col_h h r (Nat.le_of_lt hr) hc
  have g1 := col_h h (r + 1) hr hc
  clear h hr hc
  cases hm : isM (e.s G) with
  | false =>
    rw [cross_str hm, step_str hm]
    rcases he with rfl | rfl | rfl | rfl
    · exact g0
    · exact xs g0
    · exact v0
    · exact xs v0
  | true =>
    rw [cross_mir hm, xf]
    rcases isM_iff.mp hm with q | q
    · rw [step_up q] at h2 ⊢
      rcases he with rfl | rfl | rfl | rfl
      · rfl
      · exact (xz g1 h2).symm.trans (xz v1 h1)
      · rfl
      · exact (xz v1 h2).symm.trans (xz g1 h1)
    · rw [step_dn q] at h2 ⊢
      rcases he with rfl | rfl | rfl | rfl
      · exact xz v0 h1
      · exact (xz g0 h2).symm
      · exact xz g0 h1
      · exact (xz v0 h2).symm
end Mine
open PySem PySem.W PyProof.Rows
set_option Elab.async false
set_option maxRecDepth 100000
set_option maxHeartbeats 1000000
set_option linter.unusedVariables false
set_option linter.unusedSimpArgs false
namespace Mine
variable {G : Gr}
open Classical in
/-- the edges of a way -/
noncomputable def alp (G : Gr) (a₀ : Ed) (L : Nat) (ax num a : Nat) : Bool := decide (OnW G a₀ L ax num a)
theorem alp_iff {a₀ : Ed} {L ax num a : Nat} : alp G a₀ L ax num a = true ↔ OnW G a₀ L ax num a := by simp [alp]
theorem alp_eq {a₀ : Ed} {L ax num a ax' num' a' : Nat} (h1 : OnW G a₀ L ax num a → OnW G a₀ L ax' num' a') (h2 : OnW G a₀ L ax' num' a' → OnW G a₀ L ax num a) : alp G a₀ L ax num a = alp G a₀ L ax' num' a' := by
  rw [Bool.eq_iff_iff, alp_iff, alp_iff]; exact ⟨h1, h2⟩
section
variable {a₀ : Ed} {L : Nat}
/-- through a cell from each of its four sides -/
theorem four (w : Way G a₀ L) (h : a₀.V G) (h0 : ¬ a₀.rev.Inn G) {r c : Nat} (hr : r < G.R) (hc : c < G.C) {s : Nat} (hs : G.cell r c = s) :
    (OnW G a₀ L 0 r c → OnE G a₀ L (if isM s = true then ⟨1, c, if (if s = 47 then false else true) = true then r + 1 else r, if s = 47 then false else true⟩ else ⟨0, r, c + 1, true⟩)) ∧
    (OnW G a₀ L 0 r (c + 1) → OnE G a₀ L (if isM s = true then ⟨1, c, if (if s = 47 then true else false) = true then r + 1 else r, if s = 47 then true else false⟩ else ⟨0, r, c, false⟩)) ∧
    (OnW G a₀ L 1 c r → OnE G a₀ L (if isM s = true then ⟨0, r, if (if s = 47 then false else true) = true then c + 1 else c, if s = 47 then false else true⟩ else ⟨1, c, r + 1, true⟩)) ∧
    (OnW G a₀ L 1 c (r + 1) → OnE G a₀ L (if isM s = true then ⟨0, r, if (if s = 47 then true else false) = true then c + 1 else c, if s = 47 then true else false⟩ else ⟨1, c, r, false⟩)) := by
  subst hs
  refine ⟨fun ho => ?_, fun ho => ?_, fun ho => ?_, fun ho => ?_⟩
  · exact on_step w h h0 (e := ⟨0, r, c, true⟩) (by unfold Ed.Inn; exact hc) ho
  · exact on_step w h h0 (e := ⟨0, r, c + 1, false⟩) (by unfold Ed.Inn; exact Nat.succ_pos c) ho
  · exact on_step w h h0 (e := ⟨1, c, r, true⟩) (by unfold Ed.Inn; exact hr) ho
  · exact on_step w h h0 (e := ⟨1, c, r + 1, false⟩) (by unfold Ed.Inn; exact Nat.succ_pos r) ho
theorem alp_even (w : Way G a₀ L) (h : a₀.V G) (h0 : ¬ a₀.rev.Inn G) : Even G (alp G a₀ L) where
  str r c hr hc hm := by
    obtain ⟨h1, h2, h3, h4⟩ := four w h h0 hr hc rfl
    rw [if_neg (by rw [hm]; decide)] at h1 h2 h3 h4
    exact ⟨alp_eq h1 h2, alp_eq h3 h4⟩
  up r c hr hc hs := by
    obtain ⟨h1, h2, h3, h4⟩ := four w h h0 hr hc hs
    exact ⟨alp_eq h1 h3, alp_eq h2 h4⟩
  dn r c hr hc hs := by
    obtain ⟨h1, h2, h3, h4⟩ := four w h h0 hr hc hs
    exact ⟨alp_eq h1 h4, alp_eq h2 h3⟩
/-- how often a ray crosses the way, by odd and even -/
noncomputable def flipI : List Int → List Int
  | [r, c, x] => [r, c, 1 - x]
  | l => l
theorem flip_pt {ax x y : Nat} (h : ax = 0 ∨ ax = 1) : flipI (ptI ax x (y : Int)) = ptI (1 - ax) y (x : Int) := by
  rcases h with rfl | rfl <;> rfl
noncomputable def par (n : Nat) : Bool := n % 2 == 1
theorem par_add (a b : Nat) : par (a + b) = (par a ^^ par b) := by
  unfold par
  rcases Nat.mod_two_eq_zero_or_one a with h1 | h1 <;> rcases Nat.mod_two_eq_zero_or_one b with h2 | h2 <;> rw [Nat.add_mod, h1, h2] <;> rfl
theorem cross_cnt (w : Way G a₀ L) (h : a₀.V G) (h0 : ¬ a₀.rev.Inn G) {e : Ed} (hV : e.V G) (hi : e.Inn G) : par ((e.pas G).countP fun p => (told G a₀ L).any (· == flipI p)) = cross G (alp G a₀ L) e := by
  unfold Ed.pas cross
  cases hm : isM (e.s G) with
  | true => rfl
  | false =>
    have hk := Ed.k_lt hV hi
    have hn := hV.num
    have hat : G.at (1 - e.ax) e.k e.num = e.s G := at_swap e.ax e.k e.num hV.ax
    have key := on_told w h h0 (ax := 1 - e.ax) (num := e.k) (k := e.num) (by have := hV.ax; omega) hn (by rw [hat]; exact hm)
    have e1 : (told G a₀ L).any (· == flipI (ptI e.ax e.num (e.k : Int))) = alp G a₀ L (1 - e.ax) e.k e.num := by
      rw [Bool.eq_iff_iff, alp_iff, key, List.any_eq_true, flip_pt hV.ax]
      simp
    simp only [Bool.false_eq_true, if_false, List.countP_cons, List.countP_nil, e1, Bool.not_false, Bool.true_and]
    cases alp G a₀ L (1 - e.ax) e.k e.num <;> rfl
theorem col_way (w : Way G a₀ L) (h : a₀.V G) (h0 : ¬ a₀.rev.Inn G) {b₀ : Ed} {K : Nat} (v : Way G b₀ K) (hb : b₀.V G) (hne1 : (b₀.it G K).rev ≠ a₀) (hne2 : b₀.it G K ≠ a₀.it G L) :
    ∀ i, i ≤ K → colE (alp G a₀ L) (b₀.it G i) = (colE (alp G a₀ L) b₀ ^^ par ((told G b₀ i).countP fun p => (told G a₀ L).any (· == flipI p)))
  | 0, _ => by simp [told, Ed.it, par]
  | i + 1, hi => by
    have off := on_apart w h h0 v hne1 hne2
    have o : ∀ j, j ≤ K → alp G a₀ L (b₀.it G j).ax (b₀.it G j).num (b₀.it G j).a = false := fun j hj => by
      have := off j hj
      cases q : alp G a₀ L (b₀.it G j).ax (b₀.it G j).num (b₀.it G j).a with
      | false => rfl
      | true => exact absurd (alp_iff.mp q) this
    have st := col_step (alp_even w h h0) (v.V hb (by lia : i ≤ K)) (v.inn i (by lia)) (o i (by lia)) (o (i + 1) hi)
    rw [← cross_cnt w h h0 (v.V hb (by lia)) (v.inn i (by lia)), col_way w h h0 v hb hne1 hne2 i (by lia)] at st
    show colE (alp G a₀ L) ((b₀.it G i).step G) = _
    rw [st, told_succ, List.countP_append, par_add, Bool.xor_assoc]
end
/-- the places on the rim, in order -/
noncomputable def rimE (G : Gr) (t : Nat) : Ed :=
  if t < G.C then ⟨1, t, 0, true⟩ else if t < G.C + G.R then ⟨0, t - G.C, G.C, false⟩ else if t < G.C + G.R + G.C then ⟨1, G.C - 1 - (t - (G.C + G.R)), G.R, false⟩ else ⟨0, G.R - 1 - (t - (G.C + G.R + G.C)), 0, true⟩
noncomputable abbrev Gr.rim (G : Gr) : Nat := G.C + G.R + G.C + G.R
theorem rim_V {t : Nat} (hG : G.Ok) (ht : t < G.rim) : (rimE G t).V G ∧ ¬ (rimE G t).rev.Inn G ∧ (rimE G t).a = startN G (rimE G t).ax (rimE G t).fwd := by
  have h1 := hG.r1
  have h2 := hG.c1
  unfold Gr.rim at ht
  unfold rimE
  split
  · rename_i q
    exact ⟨⟨.inr rfl, q, Nat.zero_le _⟩, by simp [Ed.Inn, Ed.rev], rfl⟩
  · split
    · rename_i q
      exact ⟨⟨.inl rfl, (by show t - G.C < G.R; omega), Nat.le_refl _⟩, by simp [Ed.Inn, Ed.rev, Gr.n], rfl⟩
    · split
      · exact ⟨⟨.inr rfl, (by show G.C - 1 - (t - (G.C + G.R)) < G.C; omega), Nat.le_refl _⟩, by simp [Ed.Inn, Ed.rev, Gr.n], rfl⟩
      · exact ⟨⟨.inl rfl, (by show G.R - 1 - (t - (G.C + G.R + G.C)) < G.R; omega), Nat.zero_le _⟩, by simp [Ed.Inn, Ed.rev], rfl⟩
/-- each place where a ray may come in is one of them -/
theorem rim_all {e : Ed} (h : e.V G) (h0 : ¬ e.rev.Inn G) : ∃ t, t < G.rim ∧ e = rimE G t := by
  have hn := h.num
  have ha := h.a
  have hax := h.ax
  obtain ⟨ax, num, a, fwd⟩ := e
  replace hax : ax = 0 ∨ ax = 1 := hax
  unfold Gr.rim
  rcases hax with rfl | rfl
  · have hn' : num < G.R := hn
    have ha' : a ≤ G.C := ha
    cases fwd with
    | true =>
      have : a = 0 := by simpa [Ed.Inn, Ed.rev] using h0
      refine ⟨G.C + G.R + G.C + (G.R - 1 - num), by omega, ?_⟩
      unfold rimE
      rw [if_neg (by omega), if_neg (by omega), if_neg (by omega)]
      exact Ed.ext' rfl (by simp; omega) (by simpa using this) rfl
    | false =>
      have : a = G.C := by
        have : ¬ a < G.C := by simpa [Ed.Inn, Ed.rev, Gr.n] using h0
        omega
      refine ⟨G.C + num, by omega, ?_⟩
      unfold rimE
      rw [if_neg (by omega), if_pos (by omega)]
      exact Ed.ext' rfl (by simp) (by simpa using this) rfl
  · have hn' : num < G.C := hn
    have ha' : a ≤ G.R := ha
    cases fwd with
    | true =>
      have : a = 0 := by simpa [Ed.Inn, Ed.rev] using h0
      refine ⟨num, by omega, ?_⟩
      unfold rimE
      rw [if_pos hn']
      exact Ed.ext' rfl rfl (by simpa using this) rfl
    | false =>
      have : a = G.R := by
        have : ¬ a < G.R := by simpa [Ed.Inn, Ed.rev, Gr.n] using h0
        omega
      refine ⟨G.C + G.R + (G.C - 1 - num), by omega, ?_⟩
      unfold rimE
      rw [if_neg (by omega), if_neg (by omega), if_pos (by omega)]
      exact Ed.ext' rfl (by simp; omega) (by simpa using this) rfl
/-- a rim place's number -/
noncomputable def rimPos (G : Gr) (ax : Nat) (fwd : Bool) (num : Nat) : Nat := if ax = 1 then (if fwd then num else G.C + G.R + (G.C - 1 - num)) else (if fwd then G.C + G.R + G.C + (G.R - 1 - num) else G.C + num)
theorem rim_pos {t : Nat} (ht : t < G.rim) : rimPos G (rimE G t).ax (rimE G t).fwd (rimE G t).num = t := by
  unfold Gr.rim at ht
  unfold rimE
  split
  · rfl
  · split
    · show G.C + (t - G.C) = t; lia
    · split
      · show G.C + G.R + (G.C - 1 - (G.C - 1 - (t - (G.C + G.R)))) = t; lia
      · show G.C + G.R + G.C + (G.R - 1 - (G.R - 1 - (t - (G.C + G.R + G.C)))) = t; lia
theorem rim_inj {t u : Nat} (ht : t < G.rim) (hu : u < G.rim) (h1 : (rimE G t).ax = (rimE G u).ax) (h2 : (rimE G t).fwd = (rimE G u).fwd) (h3 : (rimE G t).num = (rimE G u).num) : t = u := by
  rw [← rim_pos ht, ← rim_pos hu, h1, h2, h3]
/-- the colours along the rim -/
noncomputable def rimQ (G : Gr) (α : Nat → Nat → Nat → Bool) : Nat → Bool
  | 0 => false
  | t + 1 => rimQ G α t ^^ α (rimE G t).ax (rimE G t).num (rimE G t).a
theorem rimQ_top {α : Nat → Nat → Nat → Bool} : ∀ k, k ≤ G.C → rimQ G α k = col α 0 k
  | 0, _ => rfl
  | k + 1, h => by
    have e : rimE G k = ⟨1, k, 0, true⟩ := by unfold rimE; rw [if_pos (by lia)]
    rw [rimQ, rimQ_top k (by lia), e]; rfl
theorem rimQ_right {α : Nat → Nat → Nat → Bool} : ∀ k, k ≤ G.R → rimQ G α (G.C + k) = col α k G.C
  | 0, _ => rimQ_top G.C (Nat.le_refl _)
  | k + 1, h => by
    have e : rimE G (G.C + k) = ⟨0, k, G.C, false⟩ := by unfold rimE; rw [if_neg (by lia), if_pos (by lia), Nat.add_sub_cancel_left]
    rw [← Nat.add_assoc, rimQ, rimQ_right k (by lia), e, col]
theorem rimQ_low {α : Nat → Nat → Nat → Bool} (hE : Even G α) : ∀ k, k ≤ G.C → rimQ G α (G.C + G.R + k) = col α G.R (G.C - k)
  | 0, _ => rimQ_right G.R (Nat.le_refl _)
  | k + 1, h => by
    have e : rimE G (G.C + G.R + k) = ⟨1, G.C - 1 - k, G.R, false⟩ := by unfold rimE; rw [if_neg (by lia), if_neg (by lia), if_pos (by lia), Nat.add_sub_cancel_left]
    rw [← Nat.add_assoc, rimQ, rimQ_low hE k (by lia), e]
    have := col_h hE G.R (j := G.C - 1 - k) (Nat.le_refl _) (by lia)
    rw [show G.C - 1 - k + 1 = G.C - k from by lia] at this
    rw [this, show G.C - (k + 1) = G.C - 1 - k from by lia, Bool.xor_assoc, Bool.xor_self, xf]
theorem rimQ_left {α : Nat → Nat → Nat → Bool} (hE : Even G α) : ∀ k, k ≤ G.R → rimQ G α (G.C + G.R + G.C + k) = col α (G.R - k) 0
  | 0, _ => by have := rimQ_low hE G.C (Nat.le_refl _); rw [Nat.sub_self] at this; exact this
  | k + 1, h => by
    have e : rimE G (G.C + G.R + G.C + k) = ⟨0, G.R - 1 - k, 0, true⟩ := by unfold rimE; rw [if_neg (by lia), if_neg (by lia), if_neg (by lia), Nat.add_sub_cancel_left]
    rw [← Nat.add_assoc, rimQ, rimQ_left hE k (by lia), e]
    have : col α (G.R - 1 - k + 1) 0 = (col α (G.R - 1 - k) 0 ^^ α 0 (G.R - 1 - k) 0) := rfl
    rw [show G.R - 1 - k + 1 = G.R - k from by lia] at this
    rw [this, show G.R - (k + 1) = G.R - 1 - k from by lia, Bool.xor_assoc, Bool.xor_self, xf]
theorem col_rim {α : Nat → Nat → Nat → Bool} (hE : Even G α) {t : Nat} (ht : t < G.rim) (ho : α (rimE G t).ax (rimE G t).num (rimE G t).a = false) : colE α (rimE G t) = rimQ G α t := by
  unfold Gr.rim at ht
  by_cases h1 : t < G.C
  · have e : rimE G t = ⟨1, t, 0, true⟩ := by unfold rimE; rw [if_pos h1]
    rw [e, rimQ_top t (by lia)]; rfl
  · by_cases h2 : t < G.C + G.R
    · obtain ⟨k, rfl⟩ : ∃ k, t = G.C + k := ⟨t - G.C, by lia⟩
      have e : rimE G (G.C + k) = ⟨0, k, G.C, false⟩ := by unfold rimE; rw [if_neg h1, if_pos h2, Nat.add_sub_cancel_left]
      rw [e, rimQ_right k (by lia)]; rfl
    · by_cases h3 : t < G.C + G.R + G.C
      · obtain ⟨k, rfl⟩ : ∃ k, t = G.C + G.R + k := ⟨t - (G.C + G.R), by lia⟩
        have e : rimE G (G.C + G.R + k) = ⟨1, G.C - 1 - k, G.R, false⟩ := by unfold rimE; rw [if_neg h1, if_neg h2, if_pos h3, Nat.add_sub_cancel_left]
        rw [e] at ho ⊢
        rw [rimQ_low hE k (by lia)]
        have := col_h hE G.R (j := G.C - 1 - k) (Nat.le_refl _) (by lia)
        have ho' : α 1 (G.C - 1 - k) G.R = false := ho
        rw [ho', xf, show G.C - 1 - k + 1 = G.C - k from by lia] at this
        exact this.symm
      · obtain ⟨k, rfl⟩ : ∃ k, t = G.C + G.R + G.C + k := ⟨t - (G.C + G.R + G.C), by lia⟩
        have e : rimE G (G.C + G.R + G.C + k) = ⟨0, G.R - 1 - k, 0, true⟩ := by unfold rimE; rw [if_neg h1, if_neg h2, if_neg h3, Nat.add_sub_cancel_left]
        rw [e] at ho ⊢
        rw [rimQ_left hE k (by lia)]
        have ho' : α 0 (G.R - 1 - k) 0 = false := ho
        have : col α (G.R - 1 - k + 1) 0 = (col α (G.R - 1 - k) 0 ^^ α 0 (G.R - 1 - k) 0) := rfl
        rw [ho', xf, show G.R - 1 - k + 1 = G.R - k from by lia] at this
        exact this.symm
/-- the rim's colours, by where the way comes in and out -/
theorem rimQ_two {α : Nat → Nat → Nat → Bool} {m M : Nat} (hne : m ≠ M) (h : ∀ t, t < G.rim → (α (rimE G t).ax (rimE G t).num (rimE G t).a = (decide (t = m) || decide (t = M)))) : ∀ t, t ≤ G.rim → rimQ G α t = (decide (m < t) ^^ decide (M < t))
  | 0, _ => rfl
  | t + 1, ht => by
    rw [rimQ, rimQ_two hne h t (by lia), h t (by lia)]
    by_cases h1 : t = m
    · subst h1
      have a1 : decide (t < t) = false := by simp
      have a2 : decide (t < t + 1) = true := by simp
      have a3 : decide (t = M) = false := by simpa using hne
      have a4 : decide (M < t + 1) = decide (M < t) := by rw [decide_eq_decide]; lia
      rw [a1, a2, a3, a4]; simp
    · by_cases h2 : t = M
      · subst h2
        have a1 : decide (t < t) = false := by simp
        have a2 : decide (t < t + 1) = true := by simp
        have a3 : decide (t = m) = false := by simpa using h1
        have a4 : decide (m < t + 1) = decide (m < t) := by rw [decide_eq_decide]; lia
        rw [a1, a2, a3, a4]; simp
      · have a1 : decide (m < t + 1) = decide (m < t) := by rw [decide_eq_decide]; lia
        have a2 : decide (M < t + 1) = decide (M < t) := by rw [decide_eq_decide]; lia
        rw [a1, a2]; simp [h1, h2]
end Mine
open PySem PySem.W PyProof.Rows
set_option Elab.async false
set_option maxRecDepth 100000
set_option maxHeartbeats 1000000
set_option linter.unusedVariables false
set_option linter.unusedSimpArgs false
namespace Mine
variable {G : Gr}
theorem Way.uniq {e : Ed} {L K : Nat} (w : Way G e L) (v : Way G e K) : L = K := by
  rcases Nat.lt_trichotomy L K with q | q | q
  · exact absurd (v.inn L q) w.out
  · exact q
  · exact absurd (w.inn K q) v.out
/-- what becomes of a ray -/
structure RayOk (G : Gr) (t L u : Nat) : Prop where
  way : Way G (rimE G t) L
  lt : u < G.rim
  out : ((rimE G t).it G L).rev = rimE G u
  ray : rayF G (4 * G.R * G.C + 1) (rimE G t).ax (rimE G t).fwd (rimE G t).num (startN G (rimE G t).ax (rimE G t).fwd) [] = some (((rimE G u).ax, (rimE G u).fwd, (rimE G u).num), told G (rimE G t) L)
theorem ray_at (hG : G.Ok) {t : Nat} (ht : t < G.rim) : ∃ p : Nat × Nat, RayOk G t p.1 p.2 := by
  obtain ⟨hV, h0, ha⟩ := rim_V hG ht
  obtain ⟨res, hr⟩ := ray_some hV h0 (4 * G.R * G.C + 1) 0 [] [] (fun j hj => absurd hj (Nat.not_lt_zero _)) List.nodup_nil (fun c hc => absurd hc List.not_mem_nil) (by simp)
  have hr' : rayF G (4 * G.R * G.C + 1) (rimE G t).ax (rimE G t).fwd (rimE G t).num (rimE G t).a [] = some res := hr
  obtain ⟨L, w, e⟩ := ray_way _ _ _ _ _ _ _ (show (⟨(rimE G t).ax, (rimE G t).num, (rimE G t).a, (rimE G t).fwd⟩ : Ed).V G from hV) hr'
  have w' : Way G (rimE G t) L := w
  have e' : res = ((((rimE G t).it G L).ax, !((rimE G t).it G L).fwd, ((rimE G t).it G L).num), [] ++ told G (rimE G t) L) := e
  obtain ⟨u, hu, q⟩ := rim_all (w'.V hV (Nat.le_refl _)).rev (by rw [Ed.rev_rev]; exact w'.out)
  refine ⟨(L, u), w', hu, q, ?_⟩
  rw [← ha, hr', e', ← q]; rfl
/-- of any two rays, each with its two places on the rim: the one's part the other's if and only if they cross an odd number of times -/
structure Jordan (G : Gr) (outs : Nat → Nat) (ps : Nat → List (List Int)) : Prop where
  ray : ∀ t, t < G.rim → rayF G (4 * G.R * G.C + 1) (rimE G t).ax (rimE G t).fwd (rimE G t).num (startN G (rimE G t).ax (rimE G t).fwd) [] = some (((rimE G (outs t)).ax, (rimE G (outs t)).fwd, (rimE G (outs t)).num), ps t)
  lt : ∀ t, t < G.rim → outs t < G.rim
  ne : ∀ t, t < G.rim → outs t ≠ t
  inv : ∀ t, t < G.rim → outs (outs t) = t
  rev : ∀ t, t < G.rim → ps (outs t) = (ps t).reverse
  odd : ∀ t u, t < u → u < G.rim → t < outs t → u < outs u → par ((ps t).countP fun p => (ps u).any (· == flipI p)) = (decide (u < outs t) && decide (outs t < outs u))
theorem jordan (hG : G.Ok) : ∃ outs ps, Jordan G outs ps := by
  have h : ∀ t, ∃ p : Nat × Nat, t < G.rim → RayOk G t p.1 p.2 := fun t => by
    by_cases ht : t < G.rim
    · obtain ⟨p, hp⟩ := ray_at hG ht; exact ⟨p, fun _ => hp⟩
    · exact ⟨(0, 0), fun q => absurd q ht⟩
  obtain ⟨f, hf⟩ := Classical.skolem.mp h
  have rev : ∀ t, t < G.rim → (f (f t).2).1 = (f t).1 ∧ (f (f t).2).2 = t ∧ told G (rimE G (f t).2) (f (f t).2).1 = (told G (rimE G t) (f t).1).reverse := fun t ht => by
    obtain ⟨hV, h0, ha⟩ := rim_V hG ht
    have r := hf t ht
    have r2 := hf (f t).2 r.lt
    have w2 := r.way.rev hV h0
    have e2 := r.way.rev_end hV
    have t2 := r.way.rev_told hV
    rw [r.out] at w2 e2 t2
    have hL := r2.way.uniq w2
    refine ⟨hL, ?_, by rw [hL]; exact t2⟩
    have := r2.out
    rw [hL, e2] at this
    exact (rim_inj ht r2.lt (congrArg Ed.ax this) (congrArg Ed.fwd this) (congrArg Ed.num this)).symm
  refine ⟨fun t => (f t).2, fun t => told G (rimE G t) (f t).1, fun t ht => (hf t ht).ray, fun t ht => (hf t ht).lt, fun t ht q => ?_, fun t ht => (rev t ht).2.1, fun t ht => (rev t ht).2.2, fun t u htu hu h1 h2 => ?_⟩
  · have r := hf t ht
    have := r.way.ne (rim_V hG ht).1
    rw [r.out] at this
    rw [show (f t).2 = t from q] at this
    exact this rfl
  · have ht : t < G.rim := by lia
    obtain ⟨hVt, h0t, _⟩ := rim_V hG ht
    obtain ⟨hVu, h0u, _⟩ := rim_V hG hu
    have rt := hf t ht
    have ru := hf u hu
    show par ((told G (rimE G t) (f t).1).countP fun p => (told G (rimE G u) (f u).1).any (· == flipI p)) = (decide (u < (f t).2) && decide ((f t).2 < (f u).2))
    replace h1 : t < (f t).2 := h1
    replace h2 : u < (f u).2 := h2
    generalize hT : (f t).2 = T at *
    generalize hU : (f u).2 = U at *
    have iT := (rev t ht).2.1
    have iU := (rev u hu).2.1
    rw [hT] at iT
    rw [hU] at iU
    have n1 : T ≠ u := fun q => by
      rw [q, hU] at iT; lia
    have n2 : T ≠ U := fun q => by
      rw [q, iU] at iT; lia
    have hT' := rt.lt
    have hU' := ru.lt
    have inj : ∀ {s r : Nat}, s < G.rim → r < G.rim → rimE G s = rimE G r → s = r := fun hs hr e => rim_inj hs hr (congrArg Ed.ax e) (congrArg Ed.fwd e) (congrArg Ed.num e)
    have hne1 : ((rimE G t).it G (f t).1).rev ≠ rimE G u := fun q => n1 (inj hT' hu (rt.out.symm.trans q))
    have hne2 : (rimE G t).it G (f t).1 ≠ (rimE G u).it G (f u).1 := fun q => n2 (inj hT' hU' (rt.out.symm.trans ((congrArg Ed.rev q).trans ru.out)))
    have key := col_way ru.way hVu h0u rt.way hVt hne1 hne2 (f t).1 (Nat.le_refl _)
    have off := on_apart ru.way hVu h0u rt.way hne1 hne2
    have of : ∀ {e : Ed}, ¬ OnE G (rimE G u) (f u).1 e → alp G (rimE G u) (f u).1 e.ax e.num e.a = false := fun {e} ho => by
      cases q : alp G (rimE G u) (f u).1 e.ax e.num e.a with
      | false => rfl
      | true => exact absurd (alp_iff.mp q) ho
    have hE := alp_even ru.way hVu h0u
    have end' : ∀ {e : Ed}, colE (alp G (rimE G u) (f u).1) e.rev = colE (alp G (rimE G u) (f u).1) e := rfl
    have o1 := of (off (f t).1 (Nat.le_refl _))
    have o1' : alp G (rimE G u) (f u).1 (rimE G T).ax (rimE G T).num (rimE G T).a = false := by rw [← rt.out]; exact o1
    have c1 := col_rim hE hT' o1'
    have c0 := col_rim hE ht (of (off 0 (Nat.zero_le _)))
    rw [← rt.out, end', key, c0] at c1
    have two := rimQ_two (G := G) (α := alp G (rimE G u) (f u).1) (m := u) (M := U) (by lia) fun s hs => by
      rw [Bool.eq_iff_iff, alp_iff, Bool.or_eq_true, decide_eq_true_eq, decide_eq_true_eq]
      refine (on_rim ru.way hVu h0u (rim_V hG hs).2.1).trans ?_
      rw [ru.out]
      constructor
      · rintro (q | q)
        · exact .inl (inj hs hu q)
        · exact .inr (inj hs hU' q)
      · rintro (rfl | rfl)
        · exact .inl rfl
        · exact .inr rfl
    rw [two t (by lia), two T (by lia)] at c1
    rw [show decide (u < t) = false from by simp; lia, show decide (U < t) = false from by simp; lia] at c1
    simp only [Bool.xor_false, Bool.false_xor] at c1
    rw [c1]
    by_cases q1 : u < T <;> by_cases q2 : T < U <;> simp [q1, q2] <;> lia
end Mine
open PySem PySem.W PyProof.Rows
set_option Elab.async false
set_option maxRecDepth 100000
set_option maxHeartbeats 1000000
set_option linter.unusedVariables false
set_option linter.unusedSimpArgs false
namespace Mine
variable {B : Bs}
theorem rayF_len {G : Gr} (hG : G.Ok) : ∀ (n ax num a : Nat) (fwd : Bool) (ps : List (List Int)) (res : (Nat × Bool × Nat) × List (List Int)), (ax = 0 ∨ ax = 1) → num < G.n (1 - ax) → a ≤ G.n ax → rayF G n ax fwd num a ps = some res →
    (∀ p ∈ ps, ∃ r c x, p = [r, c, x]) → res.2.length ≤ ps.length + 10 * n ∧ ∀ p ∈ res.2, ∃ r c x, p = [r, c, x]
  | 0, _, _, _, _, _, _, _, _, _, he, _ => nomatch he
  | n + 1, ax, num, a, fwd, ps, res, hax, hnum, ha, he, hp => by
    have hbt := bt_le (G := G) (num := num) (fwd := fwd) ha
    have hrc := reach_cases (G := G) (num := num) (fwd := fwd) ha
    have hN := Gr.n_le hG ax
    unfold rayF at he
    dsimp only at he
    generalize reachI G ax fwd num a = reach at he hbt hrc
    have hp' : ∀ p ∈ ps ++ btw ax num fwd a reach, ∃ r c x, p = [r, c, x] := fun p hm => by
      rcases List.mem_append.mp hm with q | q
      · exact hp p q
      · obtain ⟨k, _, rfl⟩ := List.mem_map.mp q
        unfold ptI; split
        · exact ⟨_, _, _, rfl⟩
        · exact ⟨_, _, _, rfl⟩
    have hl : (ps ++ btw ax num fwd a reach).length ≤ ps.length + 10 := by simp [btw]; lia
    by_cases hout : reach = -1 ∨ reach = G.n ax
    · rw [if_pos hout] at he
      cases he
      exact ⟨by show (ps ++ btw ax num fwd a reach).length ≤ _; lia, hp'⟩
    · rw [if_neg hout] at he
      obtain ⟨m, h1, h2, h3⟩ := (hrc.resolve_left fun q => hout (.inl q)).resolve_left fun q => hout (.inr q)
      subst h2
      rw [Int.toNat_natCast] at he
      have hnx : (if (if G.at ax num m = 47 then !fwd else fwd) = true then num + 1 else num) ≤ G.n (1 - ax) := by
        generalize (if G.at ax num m = 47 then !fwd else fwd) = b
        split <;> lia
      obtain ⟨r1, r2⟩ := rayF_len hG n (1 - ax) m _ _ _ res (ax_flip hax) (by rw [ax_back hax]; exact h1) hnx he hp'
      exact ⟨by lia, r2⟩
/-- the hall of a list of signs -/
noncomputable def hall (sg : List Nat) : Gr := ⟨sg.length / 3, 3, fun r c => sg.getD (3 * r + c) 47⟩
theorem hall_ok {sg : List Nat} (h1 : 3 ≤ sg.length) (h2 : sg.length ≤ 30) (hv : ∀ c ∈ sg, Sg c) : (hall sg).Ok where
  r1 := by show 1 ≤ sg.length / 3; lia
  r2 := by show sg.length / 3 ≤ 10; lia
  c1 := by show 1 ≤ 3; lia
  c2 := by show 3 ≤ 10; lia
  sg := fun r c => by
    show Sg (sg.getD (3 * r + c) 47)
    rw [List.getD_eq_getElem?_getD]
    cases h : sg[3 * r + c]? with
    | none => left; rfl
    | some s => exact hv s (List.mem_of_getElem? h)
theorem hall_row {sg : List Nat} {r : Nat} (h : 3 * r + 3 ≤ sg.length) : (sg.take (3 * r + 3)).drop (3 * r) = (hall sg).line 0 r := by
  have e : (hall sg).line 0 r = (List.range 3).map fun c => sg.getD (3 * r + c) 47 := rfl
  rw [e]
  have h3 : ((sg.take (3 * r + 3)).drop (3 * r)).length = 3 := by simp; lia
  refine List.ext_getElem? fun i => ?_
  by_cases hi : i < 3
  · rw [List.getElem?_drop, List.getElem?_take_of_lt (by lia), List.getElem?_map, List.getElem?_range hi]
    have : 3 * r + i < sg.length := by lia
    simp [this]
  · rw [List.getElem?_eq_none (by lia), List.getElem?_eq_none (by simp; lia)]
theorem hall_col {sg : List Nat} {k : Nat} : (hall sg).line 1 k = (List.range (sg.length / 3)).map fun r => (hall sg).cell r k := rfl
noncomputable def rimI (G : Gr) (t : Nat) : List Int := outI ((rimE G t).ax, (rimE G t).fwd, (rimE G t).num)
theorem rim_list {sg : List Nat} {R : Nat} (hR : sg.length / 3 = R) (h1 : 1 ≤ R) (h4 : R ≤ 4) :
    ((List.range 3).map fun (k : Nat) => ([1, 1, (k : Int)] : List Int)) ++ ((List.range R).map fun (k : Nat) => [0, -1, (k : Int)]) ++ ((List.range 3).map fun (k : Nat) => [1, -1, 2 - (k : Int)]) ++ ((List.range R).map fun (k : Nat) => [0, 1, (R : Int) - 1 - (k : Int)]) = (List.range (hall sg).rim).map (rimI (hall sg)) := by
  have e : hall sg = ⟨R, 3, (hall sg).cell⟩ := by unfold hall; rw [hR]
  rw [e]
  generalize (hall sg).cell = f
  have : R = 1 ∨ R = 2 ∨ R = 3 ∨ R = 4 := by lia
  rcases this with rfl | rfl | rfl | rfl <;> rfl
theorem rimI_inj {G : Gr} {t u : Nat} (ht : t < G.rim) (hu : u < G.rim) (hG : G.Ok) (h : rimI G t = rimI G u) : t = u := by
  have h1 := (rim_V hG ht).1.ax
  have h2 := (rim_V hG hu).1.ax
  simp only [rimI, outI, List.cons.injEq, and_true] at h
  obtain ⟨a, b, c⟩ := h
  refine rim_inj ht hu (by lia) ?_ (by lia)
  cases q1 : (rimE G t).fwd <;> cases q2 : (rimE G u).fwd <;> simp [q1, q2, sI] at b ⊢
theorem rim_small {G : Gr} (hG : G.Ok) : G.rim ≤ 40 := by
  have := hG.r2; have := hG.c2
  unfold Gr.rim; lia
/-- a comprehension, whatever its target -/
theorem CompT.gen {C : Cx B} {ρ : Rho B} {α : Type} {t elt : Expr} {ifs : List Expr} (l : List α) (f : α → Pd B) (g : α → D) (q : α → Bool) (ρ' : α → Rho B) (ha : ∀ a ∈ l, Asg C ρ (fun _ => none) t (f a) (ρ' a)) (hs : ∀ a ∈ l, ∀ x P, ρ x = some P → ρ' a x = some P)
    (ht : ∀ a ∈ l, Tests C (ρ' a) (fun _ => none) ifs (q a)) (he : ∀ a ∈ l, q a = true → Ev C (ρ' a) (fun _ => none) elt (pd (g a))) : CompT C ρ t ifs elt (l.map f) ((l.filter q).map g) := by
  induction l with
  | nil => exact .nil
  | cons a l ih =>
    have r := ih (fun b hb => ha b (List.mem_cons_of_mem _ hb)) (fun b hb => hs b (List.mem_cons_of_mem _ hb)) (fun b hb => ht b (List.mem_cons_of_mem _ hb)) fun b hb => he b (List.mem_cons_of_mem _ hb)
    have h1 := ha a List.mem_cons_self
    have h2 := hs a List.mem_cons_self
    have h3 := ht a List.mem_cons_self
    cases hq : q a with
    | false =>
      rw [hq] at h3
      rw [List.map_cons, List.filter_cons_of_neg (by rw [hq]; decide)]
      exact .skip h1 h2 h3 r
    | true =>
      rw [hq] at h3
      rw [List.map_cons, List.filter_cons_of_pos hq, List.map_cons]
      exact .cons h1 h2 h3 (he a List.mem_cons_self hq) r
theorem CompT.mapD {C : Cx B} {ρ : Rho B} {α : Type} {x : Str} {p : Pos} {elt : Expr} (l : List α) (f : α → D) (g : α → D) (hk : Sto C x) (h : ∀ a ∈ l, Ev C (upd ρ x (pd (f a))) (fun _ => none) elt (pd (g a))) (hx : ρ x = none := by rfl) : CompT C ρ (.Name x p) [] elt ((l.map f).map pd) (l.map g) := by
  rw [List.map_map]; exact CompT.map l (fun a => pd (f a)) g hk h hx
end Mine
open PySem PySem.W PyProof.Rows
set_option Elab.async false
set_option maxRecDepth 100000
set_option maxHeartbeats 1000000
set_option linter.unusedVariables false
set_option linter.unusedSimpArgs false
namespace Mine
variable {B : Bs}
theorem deps_le {k : Nat} : ∀ {l : List D}, (∀ d ∈ l, dep d ≤ k) → deps l ≤ k
  | [], _ => Nat.zero_le _
  | d :: l, h => by
    have h1 := h d List.mem_cons_self
    have h2 := deps_le fun x hx => h x (List.mem_cons_of_mem _ hx)
    simp only [deps]; lia
theorem deps_tI (l : List (List Int)) : deps (l.map tI) ≤ 1 := deps_le fun d hd => by
  obtain ⟨p, _, rfl⟩ := List.mem_map.mp hd
  simp only [tI, dep]
  refine Nat.succ_le_succ (deps_le fun d hd => ?_)
  obtain ⟨i, _, rfl⟩ := List.mem_map.mp hd
  exact Nat.le_refl _
noncomputable def rimD (G : Gr) : D := .lst ((List.range G.rim).map fun t => tI (rimI G t))
noncomputable def rayE (G : Gr) (outs : Nat → Nat) (ps : Nat → List (List Int)) (t : Nat) : D := .tup [tI (rimI G (outs t)), .lst ((ps t).map tI)]
noncomputable def raysD (G : Gr) (outs : Nat → Nat) (ps : Nat → List (List Int)) : D := .lst ((List.range G.rim).map (rayE G outs ps))
noncomputable def outsD (G : Gr) (outs : Nat → Nat) : D := .lst ((List.range G.rim).map fun t => dN (outs t))
theorem rng_ix {α : Type} {n t : Nat} (f : Nat → α) (h : t < n) : ((List.range n).map f)[((t : Nat) : Int).toNat]? = some (f t) := by simp [h]
noncomputable abbrev judL (G : Gr) (outs : Nat → Nat) (ps : Nat → List (List Int)) : List (String × Pd B) := [("rim", pd (rimD G)), ("rays", pd (raysD G outs ps)), ("outs", pd (outsD G outs))]
/-- the plain law's two parts that bound the lists -/
structure Shape (G : Gr) (ps : Nat → List (List Int)) : Prop where
  len : ∀ t, t < G.rim → (ps t).length ≤ 50000
  tri : ∀ t, t < G.rim → ∀ p ∈ ps t, ∃ r c x, p = [r, c, x]
theorem par_int (n : Nat) : cmpI .Eq ((n : Int).fmod 2) 1 = par n := by
  rw [Int.fmod_eq_emod_of_nonneg _ (by decide)]
  unfold par
  rw [cmp_dec, Bool.eq_iff_iff, decide_eq_true_eq, beq_iff_eq]
  omega
theorem lt_dec {a b : Nat} : decide ((a : Int) < (b : Int)) = decide (a < b) := by rw [decide_eq_decide]; omega
theorem i63 {t n : Nat} (h : t < n) (hn : n ≤ 40) : (0 : Int) ≤ t ∧ (t : Int) < 2 ^ 63 := by lia
theorem cmp_ltd {a b : Nat} : cmpI .Lt (a : Int) (b : Int) = decide (a < b) := lt_dec
section
variable {G : Gr} {outs : Nat → Nat} {ps : Nat → List (List Int)} {C : Cx B} {ρ : Rho B} {μ : Mu B}
theorem ev_outs (hG : G.Ok) {t : Nat} (ht : t < G.rim) (h1 : ρ (Str.ofString "outs") = some (pd (outsD G outs))) {e : Expr} (he : Ev C ρ μ e (pint (t : Int))) {p1 p2 : Pos} (hp : plainIx e = true := by rfl) : Ev C ρ μ (.Subscript (.Name (Str.ofString "outs") p1) e p2) (pint (outs t : Int)) :=
  Ev.ixL (l := (List.range G.rim).map fun t => dN (outs t)) (Ev.name h1) he (i63 ht (rim_small hG)).1 (i63 ht (rim_small hG)).2 (rng_ix (fun t => dN (outs t)) ht) hp
theorem ev_way (hG : G.Ok) {t : Nat} (ht : t < G.rim) (h1 : ρ (Str.ofString "rays") = some (pd (raysD G outs ps))) {e : Expr} (he : Ev C ρ μ e (pint (t : Int))) {n : Nat} {p1 p2 p3 p4 : Pos} (hp : plainIx e = true := by rfl) : Ev C ρ μ (.Subscript (.Subscript (.Name (Str.ofString "rays") p1) e p2) (.Constant (.int 1) n p3) p4) (pd (.lst ((ps t).map tI))) :=
  Ev.ixT (l := [tI (rimI G (outs t)), .lst ((ps t).map tI)]) (k := 1) (Ev.ixL (l := (List.range G.rim).map (rayE G outs ps)) (Ev.name h1) he (i63 ht (rim_small hG)).1 (i63 ht (rim_small hG)).2 (rng_ix (rayE G outs ps) ht) hp) Ev.int (by decide) (by decide) rfl
end
noncomputable abbrev innL (G : Gr) (outs : Nat → Nat) (ps : Nat → List (List Int)) (k : Nat) : List (String × Pd B) := judL G outs ps ++ [("k", pint (k : Int)), ("way", pd (.lst ((ps k).map tI)))]
theorem inn_body (W : W1 B) {G : Gr} (hG : G.Ok) {outs : Nat → Nat} {ps : Nat → List (List Int)} (J : Jordan G outs ps) (S : Shape G ps) {A : Around} {h₀ : Heap} (hr : Room 5 A) (hh : A.handled = none) {μ : Mu B} {k m : Nat} (hkm : k < m) (hm : m < G.rim) :
    Ex (C1 B A h₀ 105) (upd (al (innL G outs ps k)) (Str.ofString "m") (pint (m : Int))) μ (inS (nthS (inS (nthS (bodyOf (K1 B) 105) 12)) 2)) (.next (al (innL G outs ps k)) μ) := by
  have hk : k < G.rim := by lia
  have hsm := rim_small hG
  refine Ex.cons (Ex1.ite (c := decide (k < outs k) && decide (m < outs m)) (o := .next (al (innL G outs ps k)) μ) (EvT.and2 (EvT.ic (Ev.name rfl) (ev_outs hG hk rfl (Ev.name rfl)) cmp_ltd) fun _ => EvT.ic (Ev.name rfl) (ev_outs hG hm rfl (Ev.name rfl)) cmp_ltd) (fun h => ?_) (fun _ => Ex.to Ex.nil (.next (by repeat (first | exact trivial | refine And.intro rfl ?_))))) Ex.nil
  have h1 : k < outs k ∧ m < outs m := by simpa using h
  have hodd := J.odd k m hkm hm h1.1 h1.2
  have hlen := S.len k hk
  have hfl : ((ps k).filter fun p => (ps m).any (· == flipI p)).length ≤ 50000 := Nat.le_trans (List.length_filter_le _ _) hlen
  refine Ex.cons (Ex1.assignC (ds := ((ps k).filter fun p => (ps m).any (· == flipI p)).map fun _ => .int 1) hh (EvI.list (ds := (ps k).map tI) (Ev.name rfl)) (fun L h₀' => by
    rw [List.map_map]
    refine CompT.gen (ps k) (fun p => pd (tI p)) (fun _ => .int 1) (fun p => (ps m).any (· == flipI p)) (fun p => upd (upd (upd _ (Str.ofString "row") (pint (p.getD 0 0))) (Str.ofString "column") (pint (p.getD 1 0))) (Str.ofString "axis") (pint (p.getD 2 0))) (fun p hp => ?_) (fun p hp x P hx => upd_sub rfl _ _ (upd_sub rfl _ _ (upd_sub rfl _ _ hx))) (fun p hp => ?_) (fun p hp _ => Ev.int)
    · obtain ⟨r, c, x, rfl⟩ := S.tri k hk p hp
      exact Asg.tuple (ds := [.int r, .int c, .int x]) hh (AsgL.cons (Asg.name (.inl rfl)) (AsgL.cons (Asg.name (.inl rfl)) (AsgL.cons (Asg.name (.inl rfl)) AsgL.nil)))
    · obtain ⟨r, c, x, rfl⟩ := S.tri k hk p hp
      exact .one (EvT.cmp (Ev.inT (m := [r, c, 1 - x]) (ls := ps m) (Ev.tuple (ds := [.int r, .int c, .int (1 - x)]) (EvL.cons (Ev.name rfl) (EvL.cons (Ev.name rfl) (EvL.cons (Ev.sub Ev.int (Ev.name rfl)) EvL.nil)))) (ev_way hG hm rfl (Ev.name rfl)) (hr.deeper.le (by decide))))) (by simp [sizeLine]; lia) (.inl rfl)) ?_
  refine Ex.to (Ex.cons (Ex1.ite (c := false) (EvT.cast (EvT.cmp (Ev.neB (a := par ((ps k).countP fun p => (ps m).any (· == flipI p))) (b := decide (m < outs k) && decide (outs k < outs m)) (Ev.ic (Ev.mod (Ev.lenL W.K (l := ((ps k).filter fun p => (ps m).any (· == flipI p)).map fun _ => .int 1) (Ev.name rfl) (by simp; lia) (hr.deeper.le (by decide)) rfl (by rfl)) Ev.int (by decide)) Ev.int ?_)
    (Ev.lt3 (Ev.name rfl) (ev_outs hG hk rfl (Ev.name rfl)) (ev_outs hG hm rfl (Ev.name rfl)) (by rw [lt_dec, lt_dec])))) (by rw [hodd]; simp)) (fun h => nomatch h) (fun _ => Ex.nil)) Ex.nil) (.next (by repeat (first | exact trivial | refine And.intro rfl ?_)))
  rw [par_int, List.length_map, List.countP_eq_length_filter]
theorem inn_loop (W : W1 B) {G : Gr} (hG : G.Ok) {outs : Nat → Nat} {ps : Nat → List (List Int)} (J : Jordan G outs ps) (S : Shape G ps) {A : Around} {h₀ : Heap} (hr : Room 5 A) (hh : A.handled = none) {μ : Mu B} {k : Nat} : ∀ (n m : Nat), k < m → m + n = G.rim →
    Fo (C1 B A h₀ 105) (al (innL G outs ps k)) μ (rints (m : Int) 1 n) (tgtS (nthS (inS (nthS (bodyOf (K1 B) 105) 12)) 2)) (inS (nthS (inS (nthS (bodyOf (K1 B) 105) 12)) 2)) (.next (al (innL G outs ps k)) μ)
  | 0, m, _, _ => Fo.nil hh
  | n + 1, m, h1, h2 => Fo.next (Asg.name (.inr ⟨rfl, rfl⟩)) (inn_body (k := k) (m := m) W hG J S hr hh h1 (by lia)) (by
      have := inn_loop W hG J S (h₀ := h₀) (μ := μ) (k := k) hr hh n (m + 1) (by lia) (by lia)
      exact this)
theorem out_loop (W : W1 B) {G : Gr} (hG : G.Ok) {outs : Nat → Nat} {ps : Nat → List (List Int)} (J : Jordan G outs ps) (S : Shape G ps) {A : Around} {h₀ : Heap} (hr : Room 5 A) (hh : A.handled = none) {μ : Mu B} : ∀ (n k : Nat), k + n = G.rim →
    Fo (C1 B A h₀ 105) (al (judL G outs ps)) μ (rints (k : Int) 1 n) (tgtS (nthS (bodyOf (K1 B) 105) 12)) (inS (nthS (bodyOf (K1 B) 105) 12)) (.next (al (judL G outs ps)) μ)
  | 0, k, _ => Fo.nil hh
  | n + 1, k, h2 => by
    have hk : k < G.rim := by lia
    have hsm := rim_small hG
    have hlen := S.len k hk
    have hlo := J.lt k hk
    have hrange := range_any (x := (k : Int) + 1) (y := (G.rim : Int)) (c := 1) (n := n) (.inl rfl) (by lia) (by lia) (by rw [if_pos rfl]; lia)
    refine Fo.next (Asg.name (.inl rfl)) ?_ (out_loop W hG J S hr hh n (k + 1) (by lia))
    refine Ex.cons (Ex1.assign (ev_way hG hk rfl (Ev.name rfl)) (.inl rfl)) ?_
    refine Ex.cons (Ex1.ite (c := false) (EvT.boolop (EvA.or_no (EvT.ic (ev_outs hG hk rfl (Ev.name rfl)) (Ev.name rfl) ?_) (EvA.or_no (EvT.ic (ev_outs hG hlo rfl (ev_outs hG hk rfl (Ev.name rfl))) (Ev.name rfl) ?_) (EvA.or_no (EvT.cmp (Ev.neSame (x := (ps (outs k)).map tI) (ev_way hG hlo rfl (ev_outs hG hk rfl (Ev.name rfl))) (Ev.castD (Ev.revL (l := (ps k).map tI) (Ev.name rfl) (Ev.neg Ev.int) (by simp [sizeLine]; lia)) ?_) ?_)) EvA.or_nil)))) (fun h => nomatch h) (fun _ => Ex.nil)) ?_
    · rw [cmp_dec]; have := J.ne k hk; simp; lia
    · rw [J.inv k hk]; simp [cmpI]
    · rw [J.rev k hk, List.map_reverse]
    · have h1 := deps_tI (ps (outs k))
      have h2 : A.units + 3 + 10 * 4 ≤ 9000 := hr.deeper (env := callEnv (fdOf (K1 B) 105) h₀.objs.size 105) |>.units
      have h9 : cLine = 9900 := rfl
      show A.units + 3 + _ + 1 < cLine
      lia
    exact Ex.to (Ex.cons (Ex1.for (EvI.range (a := (k : Int) + 1) (c := 1) (n := n) (Ev.call (H := anyH) (Ev.bltK W.K rfl (by rfl) (by kernel_rfl) (by decide) (by decide)) (EvL.cons (Ev.add (Ev.name rfl) Ev.int) (EvL.cons (Ev.castI (Ev.lenL W.K (l := (List.range G.rim).map fun t => tI (rimI G t)) (Ev.name rfl) (by simp; lia) (hr.deeper.le (by decide)) rfl (by rfl)) (by simp)) EvL.nil)) (fn_range2 _ _) (hr.deeper.le (by decide)) trivial) hrange.1 hrange.2) (Fo.wk (l := innL G outs ps k) (by repeat (first | exact trivial | refine And.intro rfl ?_)) (inn_loop W hG J S hr hh n (k + 1) (by lia) (by lia)))) Ex.nil) (.next (by repeat (first | exact trivial | refine And.intro rfl ?_)))
end Mine
open PySem PySem.W PyProof.Rows
set_option Elab.async false
set_option maxRecDepth 100000
set_option maxHeartbeats 1000000
set_option linter.unusedVariables false
set_option linter.unusedSimpArgs false
namespace Mine
variable {B : Bs}
noncomputable def rowsD (G : Gr) : D := .lst ((List.range G.R).map fun r => .lst ((G.line 0 r).map dC))
theorem rimI_mem {G : Gr} {t : Nat} (h : t < G.rim) : (!((List.range G.rim).map (rimI G)).any (· == rimI G t)) = false := by
  simp only [Bool.not_eq_false', List.any_map, List.any_eq_true, List.mem_range, Function.comp]
  exact ⟨t, h, by simp⟩
theorem rimI_ix {G : Gr} (hG : G.Ok) {t : Nat} (h : t < G.rim) : ((List.range G.rim).map (rimI G))[t]? = some (rimI G t) ∧ ∀ m, m < t → ((List.range G.rim).map (rimI G))[m]? ≠ some (rimI G t) := by
  refine ⟨by simp [h], fun m hm => ?_⟩
  have hm' : m < G.rim := by lia
  rw [List.getElem?_map, List.getElem?_range hm']
  simp only [Option.map_some, ne_eq, Option.some.injEq]
  exact fun q => by have := rimI_inj hm' h hG q; lia
theorem map_tI {α : Type} (l : List α) (f : α → List Int) : (l.map f).map tI = l.map fun x => tI (f x) := by simp
theorem map_rng (l : List Nat) (f : Nat → D) : ((l.map f).map (pd (B := B))) = l.map fun x => pd (f x) := by simp
theorem filter_all {α : Type} (l : List α) : l.filter (fun _ => true) = l := List.filter_eq_self.mpr fun _ _ => rfl
theorem filter_no {α : Type} (l : List α) : l.filter (fun _ => false) = [] := List.filter_eq_nil_iff.mpr fun _ _ q => nomatch q
theorem law_tail (W : W1 B) {sg : List Nat} (hG : (hall sg).Ok) (hR : sg.length / 3 ≤ 4) {A : Around} {h₀ : Heap} (hr : Room 5 A) (hh : A.handled = none) {outs : Nat → Nat} {ps : Nat → List (List Int)} (J : Jordan (hall sg) outs ps) (S : Shape (hall sg) ps) :
    Ex (C1 B A h₀ 105) (al [("lines", pd (hall sg).linesD), ("rows", pd (rowsD (hall sg)))]) (fun _ => none) ((bodyOf (K1 B) 105).drop 7) (.ret (pbool true)) := by
  have hr0 : Room 0 (C1 B A h₀ 105).A := hr.deeper.le (by decide)
  have hr1 : (hall sg).R = sg.length / 3 := rfl
  have hR1 := hG.r1
  have hsm := rim_small hG
  have hrows : ∀ {ρ : Rho B}, ρ (Str.ofString "rows") = some (pd (rowsD (hall sg))) → ∀ {np p1 p2 : Pos}, Ev (C1 B A h₀ 105) ρ (fun _ => none) (.Call (.Name (Str.ofString "len") np) [.Name (Str.ofString "rows") p1] [] p2) (pint (((hall sg).R : Nat) : Int)) := fun {ρ} h {np p1 p2} => Ev.castI (Ev.lenL W.K (l := (List.range (hall sg).R).map fun r => .lst (((hall sg).line 0 r).map dC)) (Ev.name h) (by simp; lia) hr0 rfl (by rfl)) (by simp)
  have r3 := range_any (x := 0) (y := 3) (c := 1) (n := 3) (.inl rfl) (by lia) (by lia) (by rw [if_pos rfl]; lia)
  have rR := range_any (x := 0) (y := (((hall sg).R : Nat) : Int)) (c := 1) (n := (hall sg).R) (.inl rfl) (by lia) (by lia) (by rw [if_pos rfl]; lia)
  -- a comprehension of places, over range(3) and range(len(rows))
  refine Ex.cons (Ex1.assign (P := pd (.lst ((((List.range 3).map fun (k : Nat) => ([1, 1, (k : Int)] : List Int)) ++ ((List.range (hall sg).R).map fun (k : Nat) => [0, -1, (k : Int)])).map tI))) (Ev.castD (Ev.catL (x := (List.range 3).map fun (k : Nat) => tI [1, 1, 0 + 1 * (k : Int)]) (y := (List.range (hall sg).R).map fun (k : Nat) => tI [0, -1, 0 + 1 * (k : Int)])
    (Ev.comp hh (EvI.range (a := 0) (c := 1) (n := 3) (Ev.call (H := anyH) (Ev.bltK W.K rfl (by rfl) (by kernel_rfl) (by decide) (by decide)) (EvL.cons Ev.int EvL.nil) (fn_range1 _) hr0 trivial) r3.1 r3.2) (fun L h₀' => rints_map (B := B) 1 3 0 ▸ CompT.map (List.range 3) (fun (k : Nat) => pint (0 + 1 * (k : Int))) _ (.inl rfl) fun t ht => Ev.tuple (ds := [.int 1, .int 1, .int (0 + 1 * (t : Int))]) (EvL.cons Ev.int (EvL.cons Ev.int (EvL.cons (Ev.name rfl) EvL.nil)))) (by rw [rints_map]; simp [sizeLine]))
    (Ev.comp hh (EvI.range (a := 0) (c := 1) (n := (hall sg).R) (Ev.call (H := anyH) (Ev.bltK W.K rfl (by rfl) (by kernel_rfl) (by decide) (by decide)) (EvL.cons (hrows rfl) EvL.nil) (fn_range1 _) hr0 trivial) rR.1 rR.2) (fun L h₀' => rints_map (B := B) 1 (hall sg).R 0 ▸ CompT.map (List.range (hall sg).R) (fun (k : Nat) => pint (0 + 1 * (k : Int))) _ (.inl rfl) fun t ht => Ev.tuple (ds := [.int 0, .int (-1), .int (0 + 1 * (t : Int))]) (EvL.cons Ev.int (EvL.cons (Ev.neg Ev.int) (EvL.cons (Ev.name rfl) EvL.nil)))) (by rw [rints_map]; simp [sizeLine]; lia))
    (by simp [sizeLine]; lia)) (by simp [List.map_map, Function.comp_def])) (.inl rfl)) ?_
  refine Ex.cons (Ex1.assign (P := pd (rimD (hall sg))) (Ev.castD (Ev.catL (x := ((((List.range 3).map fun (k : Nat) => ([1, 1, (k : Int)] : List Int)) ++ ((List.range (hall sg).R).map fun (k : Nat) => [0, -1, (k : Int)])).map tI) ++ (List.range 3).map fun (k : Nat) => tI [1, -1, 2 - (0 + 1 * (k : Int))]) (y := (List.range (hall sg).R).map fun (k : Nat) => tI [0, 1, ((hall sg).R : Int) - 1 - (0 + 1 * (k : Int))])
    (Ev.catL (Ev.name rfl) (Ev.comp hh (EvI.range (a := 0) (c := 1) (n := 3) (Ev.call (H := anyH) (Ev.bltK W.K rfl (by rfl) (by kernel_rfl) (by decide) (by decide)) (EvL.cons Ev.int EvL.nil) (fn_range1 _) hr0 trivial) r3.1 r3.2) (fun L h₀' => rints_map (B := B) 1 3 0 ▸ CompT.map (List.range 3) (fun (k : Nat) => pint (0 + 1 * (k : Int))) _ (.inl rfl) fun t ht => Ev.tuple (ds := [.int 1, .int (-1), .int (2 - (0 + 1 * (t : Int)))]) (EvL.cons Ev.int (EvL.cons (Ev.neg Ev.int) (EvL.cons (Ev.sub Ev.int (Ev.name rfl)) EvL.nil)))) (by rw [rints_map]; simp [sizeLine])) (by simp [sizeLine]; lia))
    (Ev.comp hh (EvI.range (a := 0) (c := 1) (n := (hall sg).R) (Ev.call (H := anyH) (Ev.bltK W.K rfl (by rfl) (by kernel_rfl) (by decide) (by decide)) (EvL.cons (hrows rfl) EvL.nil) (fn_range1 _) hr0 trivial) rR.1 rR.2) (fun L h₀' => rints_map (B := B) 1 (hall sg).R 0 ▸ CompT.map (List.range (hall sg).R) (fun (k : Nat) => pint (0 + 1 * (k : Int))) _ (.inl rfl) fun t ht => Ev.tuple (ds := [.int 0, .int 1, .int (((hall sg).R : Int) - 1 - (0 + 1 * (t : Int)))]) (EvL.cons Ev.int (EvL.cons Ev.int (EvL.cons (Ev.sub (Ev.sub (Ev.castI (Ev.lenL W.K (l := (List.range (hall sg).R).map fun r => .lst (((hall sg).line 0 r).map dC)) (Ev.name rfl) (by simp; lia) (hr.deeper.le (by decide)) rfl (by rfl)) (by simp)) Ev.int) (Ev.name rfl)) EvL.nil)))) (by rw [rints_map]; simp [sizeLine]; lia))
    (by simp [sizeLine]; lia)) ?_) (.inr ⟨rfl, rfl⟩)) ?_
  · have key := congrArg (List.map tI) (rim_list (sg := sg) rfl hR1 hR)
    unfold rimD
    rw [map_tI] at key
    rw [← key]
    simp only [List.map_append, List.map_map, Function.comp_def, Int.one_mul, Int.zero_add, hr1]
  -- the rays
  refine Ex.cons (Ex1.assign (P := pd (raysD (hall sg) outs ps)) (Ev.comp (ds := (List.range (hall sg).rim).map (rayE (hall sg) outs ps)) hh (EvI.list (ds := (List.range (hall sg).rim).map fun t => tI (rimI (hall sg) t)) (Ev.name rfl)) (fun L h₀' => by
    rw [map_rng]
    have e : (List.range (hall sg).rim).map (rayE (hall sg) outs ps) = ((List.range (hall sg).rim).filter fun _ => true).map (rayE (hall sg) outs ps) := by rw [filter_all]
    rw [e]
    refine CompT.gen (List.range (hall sg).rim) (fun t => pd (tI (rimI (hall sg) t))) _ (fun _ => true) (fun t => upd (upd (upd _ (Str.ofString "axis") (pint ((rimE (hall sg) t).ax : Int))) (Str.ofString "sense") (pint (sI (rimE (hall sg) t).fwd))) (Str.ofString "number") (pint ((rimE (hall sg) t).num : Int))) (fun t ht => ?_) (fun t ht x P hx => upd_sub rfl _ _ (upd_sub rfl _ _ (upd_sub rfl _ _ hx))) (fun t ht => .nil) (fun t ht _ => ?_)
    · exact Asg.tuple (ds := [.int ((rimE (hall sg) t).ax : Int), .int (sI (rimE (hall sg) t).fwd), .int ((rimE (hall sg) t).num : Int)]) hh (AsgL.cons (Asg.name (.inl rfl)) (AsgL.cons (Asg.name (.inl rfl)) (AsgL.cons (Asg.name (.inl rfl)) AsgL.nil)))
    · have ht' : t < (hall sg).rim := List.mem_range.mp ht
      have hV := (rim_V hG ht').1
      exact Ev.call (Ev.glob rfl (glob1 W.K rfl)) (EvL.cons (Ev.name rfl) (EvL.cons (Ev.name rfl) (EvL.cons (Ev.name rfl) (EvL.cons (Ev.name rfl) EvL.nil)))) (fn_ray W hG hV.ax hV.num (J.ray t ht')) hr.deeper hh) (by simp [sizeLine]; lia)) (.inr ⟨rfl, rfl⟩)) ?_
  -- each comes out on the rim
  refine Ex.cons (Ex1.ite (c := false) (EvT.cmp (Ev.neNil (x := []) (Ev.castD (Ev.comp (ds := ((List.range (hall sg).rim).filter fun _ => false).map fun t => tI (rimI (hall sg) (outs t))) hh (EvI.list (ds := (List.range (hall sg).rim).map (rayE (hall sg) outs ps)) (Ev.name rfl)) (fun L h₀' => by
    rw [map_rng]
    refine CompT.gen (List.range (hall sg).rim) (fun t => pd (rayE (hall sg) outs ps t)) _ (fun _ => false) (fun t => upd (upd _ (Str.ofString "out") (pd (tI (rimI (hall sg) (outs t))))) (Str.ofString "passed") (pd (.lst ((ps t).map tI)))) (fun t ht => ?_) (fun t ht x P hx => upd_sub rfl _ _ (upd_sub rfl _ _ hx)) (fun t ht => ?_) (fun t ht q => nomatch q)
    · exact Asg.tuple (ds := [tI (rimI (hall sg) (outs t)), .lst ((ps t).map tI)]) hh (AsgL.cons (Asg.name (.inl rfl)) (AsgL.cons (Asg.name (.inl rfl)) AsgL.nil))
    · exact .one (EvT.cast (EvT.cmp (Ev.ninT (m := rimI (hall sg) (outs t)) (ls := (List.range (hall sg).rim).map (rimI (hall sg))) (Ev.name rfl) (Ev.castD (i := rimD (hall sg)) (Ev.name rfl) (by unfold rimD; rw [map_tI])) (hr.deeper.le (by decide)))) (rimI_mem (J.lt t (List.mem_range.mp ht))))) (by simp [sizeLine]; lia)) (by simp)) (Ev.list (ds := []) EvL.nil) hr0)) (fun h => nomatch h) (fun _ => Ex.nil)) ?_
  refine Ex.cons (Ex1.assignC (ds := (List.range (hall sg).rim).map fun t => dN (outs t)) hh (EvI.list (ds := (List.range (hall sg).rim).map (rayE (hall sg) outs ps)) (Ev.name rfl)) (fun L h₀' => by
    rw [map_rng]
    have e : ((List.range (hall sg).rim).map fun t => dN (outs t)) = ((List.range (hall sg).rim).filter fun _ => true).map fun t => dN (outs t) := by rw [filter_all]
    rw [e]
    refine CompT.gen (List.range (hall sg).rim) (fun t => pd (rayE (hall sg) outs ps t)) _ (fun _ => true) (fun t => upd (upd _ (Str.ofString "out") (pd (tI (rimI (hall sg) (outs t))))) (Str.ofString "passed") (pd (.lst ((ps t).map tI)))) (fun t ht => ?_) (fun t ht x P hx => upd_sub rfl _ _ (upd_sub rfl _ _ hx)) (fun t ht => .nil) (fun t ht _ => ?_)
    · exact Asg.tuple (ds := [tI (rimI (hall sg) (outs t)), .lst ((ps t).map tI)]) hh (AsgL.cons (Asg.name (.inl rfl)) (AsgL.cons (Asg.name (.inl rfl)) AsgL.nil))
    · have hlt := J.lt t (List.mem_range.mp ht)
      obtain ⟨x1, x2⟩ := rimI_ix hG hlt
      exact Ev.index (l := ((List.range (hall sg).rim).map (rimI (hall sg))).map tI) (Ev.castD (i := rimD (hall sg)) (Ev.name rfl) (by unfold rimD; rw [map_tI])) (Ev.name rfl) (fn_indexT _ (rimI (hall sg) (outs t)) (outs t) x1 x2 (by lia)) (hr.deeper.le (by decide))) (by simp [sizeLine]; lia) (.inl rfl)) ?_
  have rN := range_any (x := 0) (y := (((hall sg).rim : Nat) : Int)) (c := 1) (n := (hall sg).rim) (.inl rfl) (by lia) (by lia) (by rw [if_pos rfl]; lia)
  exact Ex.cons (Ex1.for (EvI.range (a := ((0 : Nat) : Int)) (c := 1) (n := (hall sg).rim) (Ev.call (H := anyH) (Ev.bltK W.K rfl (by rfl) (by kernel_rfl) (by decide) (by decide)) (EvL.cons (Ev.castI (Ev.lenL W.K (l := (List.range (hall sg).rim).map fun t => tI (rimI (hall sg) t)) (Ev.name rfl) (by simp; lia) hr0 rfl (by rfl)) (by simp)) EvL.nil) (fn_range1 _) hr0 trivial) rN.1 rN.2) (Fo.wk (l := judL (hall sg) outs ps) (by repeat (first | exact trivial | refine And.intro rfl ?_)) (out_loop W hG J S hr hh (hall sg).rim 0 (by lia)))) (Ex.leave (Ex1.ret Ev.bool))
end Mine
open PySem PySem.W PyProof.Rows
set_option Elab.async false
set_option maxRecDepth 100000
set_option maxHeartbeats 1000000
set_option linter.unusedVariables false
set_option linter.unusedSimpArgs false
namespace Mine
variable {B : Bs}
theorem dig_ok : ∀ n : Nat, n < 1000 → n ≠ 257 → 1 ≤ ((toString (n : Int) : Str)).cps.toList.length ∧ ((toString (n : Int) : Str)).cps.toList.length ≤ 3 ∧ (((toString (n : Int) : Str)).cps.toList ++ [32, 34]).take 3 ≠ [50, 53, 55] := by decide +kernel
theorem three_digits : ∀ n : Nat, n < 1000 → n ≠ 257 → ∃ q : List Nat, (toString (n : Int) : Str) = mkS q ∧ q.length ≤ 3 ∧ ∀ l : List Nat, slc (q ++ [32, 34] ++ l) none (some 3) ≠ [50, 53, 55] := by
  intro n h1 h2
  obtain ⟨a, b, c⟩ := dig_ok n h1 h2
  refine ⟨((toString (n : Int) : Str)).cps.toList, ?_, b, fun l => ?_⟩
  · show _ = (⟨((toString (n : Int) : Str)).cps.toList.toArray⟩ : Str)
    rw [Array.toArray_toList]
  · generalize ((toString (n : Int) : Str)).cps.toList = q at a b c
    have : slc (q ++ [32, 34] ++ l) none (some 3) = (q ++ [32, 34]).take 3 := by
      show ((q ++ [32, 34] ++ l).take 3).drop 0 = _
      rw [List.drop_zero, List.take_append_of_le_length (by simp; omega)]
    rw [this]; exact c
theorem fm9 (c : Int) : 0 ≤ c.fmod 999 ∧ c.fmod 999 < 999 := by
  rw [Int.fmod_eq_emod_of_nonneg _ (by decide)]
  exact ⟨Int.emod_nonneg _ (by decide), Int.emod_lt_of_pos _ (by decide)⟩
theorem fm10 (x : Int) : x.fmod 1000 = ((x % 1000).toNat : Int) := by
  rw [Int.fmod_eq_emod_of_nonneg _ (by decide)]
  exact (Int.toNat_of_nonneg (Int.emod_nonneg _ (by decide))).symm
theorem dg1 (x : Int) : (x % 1000).toNat < 1000 := by lia
theorem dg2 {y : Int} (h0 : 0 ≤ y) (h1 : y < 999) : ((258 + y) % 1000).toNat ≠ 257 := by omega
theorem pad_nat (n : Nat) : (-(n : Int)).fmod 3 = ((((-(n : Int)) % 3).toNat : Nat) : Int) ∧ ((-(n : Int)) % 3).toNat ≤ 2 ∧ (n + ((-(n : Int)) % 3).toNat) % 3 = 0 := by
  rw [Int.fmod_eq_emod_of_nonneg _ (by decide)]
  lia
theorem range3 {R : Nat} (h : R ≤ 4) (h1 : 1 ≤ R) : Builtin.Range.small 0 ((3 * R : Nat) : Int) 3 = true ∧ Builtin.Range.rangeSize 0 ((3 * R : Nat) : Int) 3 = (R : Int) := by
  have : R = 1 ∨ R = 2 ∨ R = 3 ∨ R = 4 := by lia
  rcases this with rfl | rfl | rfl | rfl <;> exact ⟨by decide +kernel, by decide +kernel⟩
theorem slc_to {α : Type} {l : List α} {p : Nat} : slc l none (some (p : Int)) = l.take p := by simp [slc]
theorem slc_midG {α : Type} {l : List α} {p q : Nat} {x y : Int} (h1 : x = p) (h2 : y = q) : slc l (some x) (some y) = (l.take q).drop p := by subst h1; subst h2; simp [slc]
theorem one_k (k : Nat) : 0 + 1 * (k : Int) = (k : Int) := by lia
/-- all the lines -/
noncomputable def allL (G : Gr) : List (List Nat) := (List.range G.R).map (G.line 0) ++ (List.range G.C).map (G.line 1)
theorem allL_ok {G : Gr} (hG : G.Ok) {s : List Nat} (h : s ∈ allL G) : s.length ≤ 10 ∧ ∀ c ∈ s, Sg c := by
  rcases List.mem_append.mp h with q | q <;> obtain ⟨k, _, rfl⟩ := List.mem_map.mp q
  · exact ⟨by rw [G.line_len]; exact Gr.n_le hG 0, Gr.line_sg hG _ _⟩
  · exact ⟨by rw [G.line_len]; exact Gr.n_le hG 1, Gr.line_sg hG _ _⟩
/-- the script's numbers, filled up to whole rows -/
noncomputable def drawn (ns : List Int) : List Int := if ns = [] then [3, 1, 7, 2, 6, 11, 15, 0, 10] else ns.take 12
noncomputable def filled (l : List Int) : List Int := l ++ ([1, 0] : List Int).take ((-(l.length : Int)) % 3).toNat
theorem drawn_len (ns : List Int) : 1 ≤ (drawn ns).length ∧ (drawn ns).length ≤ 12 := by
  unfold drawn
  split
  · decide
  · rename_i h
    have : 0 < ns.length := List.length_pos_iff.mpr h
    simp; lia
theorem filled_len (l : List Int) : (filled l).length = l.length + ((-(l.length : Int)) % 3).toNat := by
  have := (pad_nat l.length).2.1
  unfold filled
  simp; lia
theorem map_lines (l : List (List Nat)) : ((l.map lineD).map (pd (B := B))) = l.map fun s => pd (lineD s) := by simp
theorem ray_shape {G : Gr} (hG : G.Ok) {outs : Nat → Nat} {ps : Nat → List (List Int)} (J : Jordan G outs ps) {t : Nat} (ht : t < G.rim) : (ps t).length ≤ 50000 ∧ ∀ p ∈ ps t, ∃ r c x, p = [r, c, x] := by
  obtain ⟨hV, _, ha⟩ := rim_V hG ht
  obtain ⟨h1, h2⟩ := rayF_len hG _ _ _ _ _ _ _ hV.ax hV.num (by rw [← ha]; exact hV.a) (J.ray t ht) fun p hp => absurd hp List.not_mem_nil
  have hT := turns_fit hG.r2 hG.c2
  refine ⟨?_, h2⟩
  have h1' : (ps t).length ≤ 0 + 10 * (4 * G.R * G.C + 1) := h1
  lia
theorem sz_rows {n p L : Nat} (d1 : 1 ≤ n) (d2 : n ≤ 12) (p2 : p ≤ 2) (p3 : (n + p) % 3 = 0) (h : L = n + p) : 3 ≤ L ∧ L ≤ 30 ∧ ∃ R, L = 3 * R ∧ 1 ≤ R ∧ R ≤ 4 ∧ L / 3 = R := ⟨by omega, by omega, L / 3, by omega, by omega, by omega, rfl⟩
theorem cat_fit {nums : List Int} {p : Nat} (d2 : nums.length ≤ 12) : (nums.map D.int).length + (slc [D.int 1, D.int 0] none (some (p : Int))).length ≤ sizeLine := by rw [slc_to]; simp [sizeLine]; lia
theorem n3 (r : Nat) : (0 : Int) ≤ 0 + 3 * (r : Int) := by lia
theorem n33 (r : Nat) : (0 : Int) ≤ 0 + 3 * (r : Int) + 3 := by lia
theorem row_slc {sg : List Nat} {r R : Nat} (hR : sg.length = 3 * R) (h : r < R) : slc (sg.map dC) (some (0 + 3 * (r : Int))) (some (0 + 3 * (r : Int) + 3)) = ((hall sg).line 0 r).map dC := by
  rw [slc_midG (p := 3 * r) (q := 3 * r + 3) (by lia) (by lia), ← List.map_take, ← List.map_drop, hall_row (by lia)]
theorem line_fit {G : Gr} (hG : G.Ok) (ax num : Nat) : (G.line ax num).length ≤ 100 := by rw [G.line_len]; exact Nat.le_trans (Gr.n_le hG ax) (by decide)
theorem log_small {n : Nat} (h : n < 1000) : ((n : Int).natAbs).log2 < 1920 := by
  have : ((n : Int).natAbs).log2 ≤ n := by rw [Int.natAbs_natCast]; exact Nat.log2_le_self n
  lia
theorem ans_fit {q s : List Nat} (h1 : q.length ≤ 3) (h2 : s.length ≤ 10) : q.length + (lnT 97 s).length ≤ 200 := by have := lnT_len s 97; lia
theorem allL_len {G : Gr} (hG : G.Ok) : (allL G).length ≤ 1000000 := by have := hG.r2; have := hG.c2; simp [allL]; lia
theorem rc_fit {G : Gr} (hG : G.Ok) : G.R + G.C ≤ 1000000 := Nat.le_trans (Nat.add_le_add hG.r2 hG.c2) (by decide)
theorem r_fit {G : Gr} (hG : G.Ok) : G.R ≤ 1000000 := Nat.le_trans hG.r2 (by decide)
theorem fn_law (W : W1 B) (ns : List Int) (hns : ns.length ≤ 63) : Fn B 5 (.ref 105) [pscr ns] (pbool true) := by
  refine Fn.intro (xs := [Str.ofString "script"]) (get_of W.K rfl rfl rfl rfl) ?_ rfl ?_
  · intro A h₀ hr hh hb
    have hr0 : Room 0 (C1 B A h₀ 105).A := hr.deeper.le (by decide)
    obtain ⟨d1, d2⟩ := drawn_len ns
    obtain ⟨p1, p2, p3⟩ := pad_nat (drawn ns).length
    have hfl := filled_len (drawn ns)
    generalize hnum : drawn ns = nums at d1 d2 p1 p2 p3 hfl
    refine Ex.cons (Ex1.assign (P := pd (.lst (nums.map .int))) (Ev.ite (c := !ns.isEmpty) (EvT.cmp (Ev.neNilI (Ev.name rfl) (Ev.list (ds := []) EvL.nil) hr0)) (fun h => ?_) (fun h => ?_)) (.inl rfl)) ?_
    · have hne : ns ≠ [] := by intro q; subst q; simp at h
      unfold drawn at hnum
      rw [if_neg hne] at hnum
      subst hnum
      exact Ev.castD (Ev.slI (a := Option.none) (b := some ((12 : Nat) : Int)) (Ev.name rfl) trivial Ev.int trivial (by show (0 : Int) ≤ 12; decide) (Nat.le_trans hns (by decide))) (by simp [slc, List.map_take])
    · have he : ns = [] := by cases ns with
        | nil => rfl
        | cons _ _ => simp at h
      unfold drawn at hnum
      rw [if_pos he] at hnum
      subst hnum
      exact Ev.list (ds := [.int 3, .int 1, .int 7, .int 2, .int 6, .int 11, .int 15, .int 0, .int 10]) (EvL.cons Ev.int (EvL.cons Ev.int (EvL.cons Ev.int (EvL.cons Ev.int (EvL.cons Ev.int (EvL.cons Ev.int (EvL.cons Ev.int (EvL.cons Ev.int (EvL.cons Ev.int EvL.nil)))))))))
    generalize hsg : (filled nums).map sgn = sg
    have hsl : sg.length = (filled nums).length := by rw [← hsg, List.length_map]
    have hv : ∀ c ∈ sg, Sg c := fun c hc => by
      rw [← hsg] at hc
      obtain ⟨x, _, rfl⟩ := List.mem_map.mp hc
      exact sgn_ok x
    have f0 := (sz_rows d1 d2 p2 p3 hfl).2.1
    obtain ⟨f1, f2, R, hR, hR1, hR4, hGR⟩ := sz_rows d1 d2 p2 p3 (hsl.trans hfl)
    have hG : (hall sg).Ok := hall_ok f1 f2 hv
    replace hGR : (hall sg).R = R := hGR
    clear d1 p2 p3 hfl hsl hv
    -- the signs
    refine Ex.cons (Ex1.assign (P := pd (.lst (sg.map dC))) (Ev.castD (Ev.comp (ds := (filled nums).map fun x => dC (sgn x)) hh (EvI.list (ds := (filled nums).map .int) (Ev.castD (Ev.catL (x := nums.map .int) (y := slc [.int 1, .int 0] none (some (((-(nums.length : Int)) % 3).toNat : Int))) (Ev.name rfl)
      (Ev.slL (a := Option.none) (b := some (((-(nums.length : Int)) % 3).toNat : Int)) (l := [.int 1, .int 0]) (Ev.list (EvL.cons Ev.int (EvL.cons Ev.int EvL.nil))) trivial (Ev.castI (Ev.mod (Ev.neg (Ev.lenL W.K (l := nums.map .int) (Ev.name rfl) (mapA (Nat.le_trans d2 (by decide))) hr0 rfl (by rfl))) Ev.int (by decide)) (by rw [List.length_map]; exact p1)) trivial (nat0 _) (by decide)) (cat_fit d2)) (by rw [slc_to]; unfold filled; rw [List.map_append, List.map_take]; rfl))) (fun L h₀' => CompT.mapD (filled nums) (fun x => .int x) (fun x => dC (sgn x)) (.inl rfl) fun x hx => Ev.call (Ev.glob rfl (glob1 W.K rfl)) (EvL.cons (Ev.name rfl) EvL.nil) (fn_sign W x) (hr.deeper.le (by decide)) hh) (mapP (Nat.le_trans f0 (by decide)))) (by rw [← hsg, List.map_map]; rfl)) (.inr ⟨rfl, rfl⟩)) ?_
    have hr1 : Room 0 (C1 B A h₀ 105).A := hr0
    have hC : (hall sg).C = 3 := rfl
    -- the rows
    have r3 := range3 (R := R) hR4 hR1
    have rC := range_to (n := 3) (by decide)
    refine Ex.cons (Ex1.assign (P := pd (rowsD (hall sg))) (Ev.castD (Ev.comp (ds := (List.range R).map fun r => .lst (((hall sg).line 0 r).map dC)) hh (EvI.range (a := 0) (c := 3) (n := R) (Ev.call (H := anyH) (Ev.bltK W.K rfl (by rfl) (by kernel_rfl) (by decide) (by decide)) (EvL.cons Ev.int (EvL.cons (Ev.castI (Ev.lenL W.K (l := sg.map dC) (Ev.name rfl) (mapA (Nat.le_trans f2 (by decide))) hr0 rfl (by rfl)) (by rw [List.length_map, hR])) (EvL.cons Ev.int EvL.nil))) (fn_range3 _ _ _ (by decide) (by decide)) hr0 trivial) r3.1 r3.2)
      (fun L h₀' => rints_map (B := B) 3 R 0 ▸ CompT.map (List.range R) (fun (k : Nat) => pint (0 + 3 * (k : Int))) _ (.inl rfl) fun r hr' => Ev.castD (Ev.slL (l := sg.map dC) (a := some (0 + 3 * (r : Int))) (b := some (0 + 3 * (r : Int) + 3)) (Ev.name rfl) (Ev.name rfl) (Ev.add (Ev.name rfl) Ev.int) (n3 r) (n33 r) (mapL (Nat.le_trans f2 (by decide)))) (congrArg D.lst (row_slc hR (List.mem_range.mp hr')))) (rintsL (Nat.le_trans hR4 (by decide)))) (by unfold rowsD; rw [hGR])) (.inr ⟨rfl, rfl⟩)) ?_
    -- the columns
    refine Ex.cons (Ex1.assignC (ds := (List.range 3).map fun k => .lst (((hall sg).line 1 k).map dC)) hh (EvI.range (a := 0) (c := 1) (n := 3) (Ev.call (H := anyH) (Ev.bltK W.K rfl (by rfl) (by kernel_rfl) (by decide) (by decide)) (EvL.cons Ev.int EvL.nil) (fn_range1 _) hr0 trivial) rC.1 rC.2)
      (fun L h₀' => rints_map (B := B) 1 3 0 ▸ CompT.map (List.range 3) (fun (k : Nat) => pint (0 + 1 * (k : Int))) _ (.inr ⟨rfl, rfl⟩) fun k hk => Ev.castD (Ev.comp (ds := (List.range (hall sg).R).map fun r => dC ((hall sg).cell r k)) hh (EvI.list (ds := (List.range (hall sg).R).map fun r => .lst (((hall sg).line 0 r).map dC)) (Ev.name rfl))
        (fun L' h₀'' => CompT.mapD (List.range (hall sg).R) (fun r => .lst (((hall sg).line 0 r).map dC)) _ (.inl rfl) fun r hr' => Ev.ixL (l := ((hall sg).line 0 r).map dC) (k := (k : Int)) (Ev.name rfl) (Ev.castI (Ev.name rfl) (one_k k)) (nat0 k) (lt63 (Nat.le_trans (Nat.le_of_lt (List.mem_range.mp hk)) (by decide))) (by rw [Int.toNat_natCast, List.getElem?_map, Gr.line_at (List.mem_range.mp hk)]; rfl)) (rngP (r_fit hG))) (by rw [hall_col, List.map_map]; rfl)) (rintsL (by decide)) (.inl rfl)) ?_
    -- the lines
    refine Ex.cons (Ex1.assign (P := pd (hall sg).linesD) (Ev.list (ds := [.lst ((List.range (hall sg).R).map fun r => lineD ((hall sg).line 0 r)), .lst ((List.range (hall sg).C).map fun c => lineD ((hall sg).line 1 c))])
      (EvL.cons (Ev.comp hh (EvI.list (ds := (List.range (hall sg).R).map fun r => .lst (((hall sg).line 0 r).map dC)) (Ev.name rfl)) (fun L h₀' => CompT.mapD (List.range (hall sg).R) (fun r => .lst (((hall sg).line 0 r).map dC)) _ (.inl rfl) fun r hr' => Ev.call (Ev.glob rfl (glob1 W.K rfl)) (EvL.cons (Ev.name rfl) EvL.nil) (fn_line W ((hall sg).line 0 r) (line_fit hG 0 r)) (hr.deeper.le (by decide)) hh) (rngP (r_fit hG)))
      (EvL.cons (Ev.comp hh (EvI.list (ds := (List.range 3).map fun k => .lst (((hall sg).line 1 k).map dC)) (Ev.name rfl)) (fun L h₀' => CompT.mapD (List.range 3) (fun k => .lst (((hall sg).line 1 k).map dC)) _ (.inl rfl) fun r hr' => Ev.call (Ev.glob rfl (glob1 W.K rfl)) (EvL.cons (Ev.name rfl) EvL.nil) (fn_line W ((hall sg).line 1 r) (line_fit hG 1 r)) (hr.deeper.le (by decide)) hh) (rngP (by decide))) EvL.nil))) (.inr ⟨rfl, rfl⟩)) ?_
    -- the other code
    have hf2 := fm10 (258 + nums.sum.fmod 999)
    have hn1 := dg1 (258 + nums.sum.fmod 999)
    have hn2 := dg2 (fm9 nums.sum).1 (fm9 nums.sum).2
    generalize hn : ((258 + nums.sum.fmod 999) % 1000).toNat = n at hf2 hn1 hn2
    obtain ⟨q, hq1, hq2, hq3⟩ := three_digits n hn1 hn2
    refine Ex.cons (Ex1.assign (P := ptx q) (Ev.cast (Ev.call (H := anyH) (Ev.bltK W.K rfl (by rfl) (by kernel_rfl) (by decide) (by decide)) (EvL.cons (Ev.castI (Ev.mod (Ev.add Ev.int (Ev.mod (Ev.call (Ev.bltK W.K rfl (by rfl) (by kernel_rfl) (by decide) (by decide)) (EvL.cons (Ev.name rfl) EvL.nil) (fn_sum nums) hr0 hh) Ev.int (by decide))) Ev.int (by decide)) hf2) EvL.nil) (fn_strI (n : Int) (log_small hn1)) hr0 trivial) (by rw [hq1])) (.inr ⟨rfl, rfl⟩)) ?_
    -- no line is told under another code
    refine Ex.cons (Ex1.ite (c := false) (EvT.cmp (Ev.neNil (x := []) (Ev.castD (Ev.comp (ds := ((allL (hall sg)).filter fun _ => false).map lineD) hh (EvI.list (ds := (allL (hall sg)).map lineD) (Ev.castD (Ev.catL (x := (List.range (hall sg).R).map fun r => lineD ((hall sg).line 0 r)) (y := (List.range (hall sg).C).map fun c => lineD ((hall sg).line 1 c))
      (Ev.ixL (l := [.lst ((List.range (hall sg).R).map fun r => lineD ((hall sg).line 0 r)), .lst ((List.range (hall sg).C).map fun c => lineD ((hall sg).line 1 c))]) (k := 0) (Ev.name rfl) Ev.int (by decide) (by decide) rfl) (Ev.ixL (l := [.lst ((List.range (hall sg).R).map fun r => lineD ((hall sg).line 0 r)), .lst ((List.range (hall sg).C).map fun c => lineD ((hall sg).line 1 c))]) (k := 1) (Ev.name rfl) Ev.int (by decide) (by decide) rfl) (rng2L (rc_fit hG))) (by unfold allL; rw [List.map_append, List.map_map, List.map_map]; rfl)))
      (fun L h₀' => by
        rw [map_lines]
        exact CompT.filter (allL (hall sg)) (fun s => pd (lineD s)) lineD (fun _ => false) (.inl rfl) (fun s hs => EvT.not (b := true) (EvT.bool (Ev.call (Ev.glob rfl (glob1 W.K rfl)) (EvL.cons (Ev.name rfl) (EvL.cons (Ev.ixT (l := [.str (mkS (lnT 97 s)), .lst ((stsOf s).map dN), .str (mkS s)]) (k := 0) (Ev.name rfl) Ev.int (by decide) (by decide) rfl) EvL.nil)) (fn_answers W q (lnT 97 s) (hq3 _) (line_head (allL_ok hG hs).2) (ans_fit hq2 (allL_ok hG hs).1)) (hr.deeper.le (by decide)) hh))) (fun s hs q => nomatch q)) (mapP (allL_len hG))) (by rw [filter_no]; rfl)) (Ev.list (ds := []) EvL.nil) hr0)) (fun h => nomatch h) (fun _ => Ex.nil)) ?_
    obtain ⟨outs, ps, J⟩ := jordan hG
    have S : Shape (hall sg) ps := ⟨fun t ht => (ray_shape hG J ht).1, fun t ht => (ray_shape hG J ht).2⟩
    exact Ex.wk (l := [("lines", pd (hall sg).linesD), ("rows", pd (rowsD (hall sg)))]) (by repeat (first | exact trivial | refine And.intro rfl ?_)) (law_tail W hG (Nat.le_trans (Nat.le_of_eq hGR) hR4) hr hh J S)
  · exact bind1 fun a => rfl
end Mine
open PySem PySem.W PyProof.Rows
set_option Elab.async false
set_option maxRecDepth 100000
set_option maxHeartbeats 1000000
set_option linter.unusedVariables false
set_option linter.unusedSimpArgs false
namespace Mine
theorem hide_get {h : Heap} {a b : Addr} {o : Obj} (e : h.get? b = some o) (hb : b ≠ a) : (h.hide a).get? b = some o := by rw [Heap.hide_ne _ hb]; exact e
theorem ns_hide {h : Heap} {a b : Addr} {m : Str → Option Value} (x : h.Ns b m) (hb : b ≠ a) : (h.hide a).Ns b m :=
  let ⟨o, es, ep, e, r⟩ := x; ⟨o, es, ep, hide_get e hb, r⟩
theorem join1 {p : Program} {lo : List Str} {mean : ExcName → Option Value} {prog : Program} {w : World} {s : Shared} {mg mb : Str → Option Value}
    (T : Top p lo mean mg mb s.heap) (KX : (KK w.params).In s.heap) (h76 : s.heap.get? 76 = some (tabObj #[])) {fa l : Addr} {vs : List Value} {ns : List Int} (hmg : mg (Str.ofString "law") = some (.ref fa)) (hL : s.heap.IsList l vs.toArray) (hI : IntsAre vs ns) (hn : ns.length ≤ 63) :
    wpAny (model prog w) callerA (call (.ref fa) [.ref l] []) (fun v s' => v = .bool true ∧ OldK s.heap s'.heap ∧ s'.os = s.os ∧ s'.gens = s.gens) noE s := by
  obtain ⟨bm, ob, hb1, hb2, hb3, hb4, hb5, hb6⟩ := T.bmain
  have hbm : bm ≠ 76 := by rintro rfl; rw [h76] at hb3; cases hb3; cases hb4
  have KH : (KK w.params).In (s.heap.hide 76) := fun a o e => hide_get (KX a o e) (by
    rintro rfl
    have : (KK w.params).lookup 76 = none := by kernel_rfl
    rw [this] at e; cases e)
  obtain ⟨nl, nl1, nl2⟩ := T.nolimit
  obtain ⟨nd, nd1, nd2⟩ := T.nodigits
  let B : Bs := { prog, w, hb := s.heap.hide 76, mg, mb, P0 := 76, N0 := s.heap.objs.size, qual := q1, g := ns_hide T.g (by decide), b := ns_hide T.b (by decide), nolimit := ⟨nl, ns_hide nl1 (by decide), nl2⟩, hbl := T.builtins, nodigits := ⟨nd, ns_hide nd1 (by decide), nd2⟩, hP0 := Heap.hide_self _ _, hN0 := Nat.le_of_eq (Heap.hide_size _ _), bmain := ⟨bm, ob, hb1, hb2, hide_get hb3 hbm, hb4, hb5, hb6⟩ }
  have W : W1 B := ⟨KH, rfl, rfl⟩
  have hfa : fa = 105 := by
    have h1 : B.mg (Str.ofString "law") = some (.ref 105) := glob1 KH (by rfl)
    have h2 : (some (Value.ref 105)) = some (Value.ref fa) := h1.symm.trans hmg
    cases h2; rfl
  subst hfa
  have hBase : Base B s.heap := ⟨fun b o e => Heap.of_hide e, GoodTab.empty h76 1, Nat.le_refl _⟩
  have hF := (fn_law W ns hn).call none' callerA s [.ref l] ⟨by decide, by decide, rfl, ⟨_, rfl⟩⟩ rfl ⟨[], rfl, fun _ q => nomatch q⟩ hBase (fun _ q => q.elim) ⟨⟨l, vs, rfl, fun q => q, hL, hI⟩, trivial⟩
  refine wpMono hF fun v s' ⟨⟨pr, r⟩, hv⟩ => ⟨?_, ?_, r.os, r.gens⟩
  · obtain ⟨t, rfl⟩ := bool_of hv; rfl
  · have main : ∀ b o, s.heap.get? b = some o → asItWas s.heap s'.heap b o := by
      intro b o e
      by_cases hb : b = 76
      · subst hb
        rw [h76] at e
        cases e
        obtain ⟨ps, g1, _⟩ := pr.tab 1 76 (GoodTab.empty h76 1)
        refine .inr (.inl ⟨?_, rfl, #[], ps, rfl, ?_⟩)
        · have hc : CodeHd s.heap 80 76 := codeHd_of_K KX (by kernel_rfl)
          obtain ⟨o, vs, _, _, _, _, _, _, _, e, ec, d, g, _⟩ := hc
          exact ⟨80, o, vs, e, ec, d, g⟩
        · rw [g1]; simp [tabObj]
      · refine .inl (pr.obj b o e (.inl fun q => q) (.inr fun q => ?_))
        rcases q with q | q
        · exact hb q
        · exact absurd (Heap.lt_size e) (Nat.not_lt.mpr q)
    refine ⟨main, fun b o e => ?_⟩
    rcases main b o e with q | ⟨_, _, _, _, _, q⟩ | ⟨_, _, ⟨_, _, _, q, _⟩, _⟩
    · exact ⟨_, q⟩
    · exact ⟨_, q⟩
    · exact ⟨_, q⟩
theorem good1 {cl : Str → Option Addr} {mean : ExcName → Option Value} {ns : List Int} {s₁ s' : Shared} (hK : OldK s₁.heap s'.heap) (hos : s'.os = s₁.os) (hge : s'.gens = s₁.gens) (hg : s₁.gens = #[]) :
    GoodWG Challenge.rw_ph0023_02.row.claim cl mean [ofPy (.list (ns.map .int))] s₁ (.ok (.ret (.bool true))) s' := by
  refine ⟨.inl ⟨_, .bool true, [], rfl, fun _ => rfl, .bool _, ?_, fun _ => ⟨.nil, fun _ q => by cases q⟩⟩, hK, hos, AllBare.of_eq (hge.trans hg)⟩
  first | rfl | (show Challenge.rw_ph0023_02.row.claim.post [_] _ _ = true; wrow_post) | wrow_post | (simp [Challenge.rw_ph0023_02, ClaimW.post, PostW]; done) | trace_state
end Mine
set_option maxHeartbeats 8000000
theorem PySem.Challenge.cw_ph0023_02_holds : PySem.Challenge.rw_ph0023_02.Holds := by
  w_on; o_law; o_head (kmHook Mine.KK Mine.KA (fun _ => by kernel_rfl) [76]); (case hw => w_witness2)
  k_fill
  intro w s₀ s₁ mg mb G Y fa o pm cd doc dV kV ho hd hcd hD hmg hg args vals as hpre hlay hrd hwl hlo
  have KX := km_in_of Y
  km_tabs Y
  have X := (Ground.X G).1
  have V := (Ground.X G).2
  refine Ground.open G ?_
  intro T B D TE TW
  (try (refine guard_noD D (by decide +kernel) ?_; clear D))
  wrow_args hpre hlay hrd hwl hlo
  rename_i ns _ _ _ _ _ _ _ l vs _ hL _ _ _ hI _ hc _
  refine Mine.wpMono (Mine.join1 T KX (hT8 76 List.mem_cons_self) hmg hL hI (by omega)) fun v s' hv => ?_
  obtain ⟨rfl, hK, hos, hge⟩ := hv
  exact Mine.good1 hK hos hge hg
