import PyProof.Rows.All
import Wide.All
import OpenK.AllK
import Wide.FinOn
import Lean
import PySem.Challenge.RW_ph0023_01
open PySem PySem.W PyProof.Rows
set_option Elab.async false
set_option genSizeOf false
namespace Mine
theorem bind0 {α β : Type _} {f g : List α → β} (h : f [] = g []) (vs : List α) (hv : vs.length = 0) : f vs = g vs := by
  cases vs with
  | nil => exact h
  | cons a r => exact absurd hv (Nat.succ_ne_zero _)
theorem bind1 {α β : Type _} {f g : List α → β} (h : ∀ a : α, f [a] = g [a]) (vs : List α) (hv : vs.length = 1) : f vs = g vs := by
  cases vs with
  | nil => exact absurd hv.symm (Nat.succ_ne_zero _)
  | cons a r => exact bind0 (f := fun r => f (a :: r)) (g := fun r => g (a :: r)) (h a) r (Nat.succ.inj hv)
theorem bind2 {α β : Type _} {f g : List α → β} (h : ∀ a b : α, f [a, b] = g [a, b]) (vs : List α) (hv : vs.length = 2) : f vs = g vs := by
  cases vs with
  | nil => exact absurd hv.symm (Nat.succ_ne_zero _)
  | cons a r => exact bind1 (f := fun r => f (a :: r)) (g := fun r => g (a :: r)) (fun b => h a b) r (Nat.succ.inj hv)
theorem bind3 {α β : Type _} {f g : List α → β} (h : ∀ a b c : α, f [a, b, c] = g [a, b, c]) (vs : List α) (hv : vs.length = 3) : f vs = g vs := by
  cases vs with
  | nil => exact absurd hv.symm (Nat.succ_ne_zero _)
  | cons a r => exact bind2 (f := fun r => f (a :: r)) (g := fun r => g (a :: r)) (fun b c => h a b c) r (Nat.succ.inj hv)
theorem bind4 {α β : Type _} {f g : List α → β} (h : ∀ a b c d : α, f [a, b, c, d] = g [a, b, c, d]) (vs : List α) (hv : vs.length = 4) : f vs = g vs := by
  cases vs with
  | nil => exact absurd hv.symm (Nat.succ_ne_zero _)
  | cons a r => exact bind3 (f := fun r => f (a :: r)) (g := fun r => g (a :: r)) (fun b c d => h a b c d) r (Nat.succ.inj hv)
theorem bind5 {α β : Type _} {f g : List α → β} (h : ∀ a b c d e : α, f [a, b, c, d, e] = g [a, b, c, d, e]) (vs : List α) (hv : vs.length = 5) : f vs = g vs := by
  cases vs with
  | nil => exact absurd hv.symm (Nat.succ_ne_zero _)
  | cons a r => exact bind4 (f := fun r => f (a :: r)) (g := fun r => g (a :: r)) (fun b c d e => h a b c d e) r (Nat.succ.inj hv)
/-- a table of a code object (which grows when an inner def is first met) -/
noncomputable def isTab (o : Obj) : Bool := match o.cls, o.data with
  | .none, .fields _ => true
  | _, _ => false
noncomputable def isCode (o : Obj) : Prop := o.cls = .type "code" ∧ ∃ vs, o.data = .fields vs
/-- a dict, as a frame is (a raise may write into its slots) -/
noncomputable def isFrm (o : Obj) : Bool := match o.data with
  | .dict _ _ => true
  | _ => false
noncomputable def isVar (o : Obj) : Bool := isTab o || isFrm o
theorem var_fields {o : Obj} {n : String} {vs : Array Value} (h : o.cls = .type n) (hd : o.data = .fields vs) : isVar o = false := by unfold isVar isTab isFrm; rw [h, hd]; rfl
theorem var_func {o : Obj} {fd : FuncData} (hd : o.data = .func fd) : isVar o = false := by unfold isVar isTab isFrm; rw [hd]; cases o.cls <;> rfl
/-- what stands fast: the program, the world, the ground heap, and which tables may grow -/
structure Bs where
  prog : Program
  w : World
  hb : Heap
  mg : Str → Option Value
  mb : Str → Option Value
  P0 : Addr
  N0 : Nat
  qual : Nat → Nat → Option Str
  g : hb.Ns mainGlobals mg
  b : hb.Ns builtinsNs mb
  nolimit : hb.NoLimit
  hbl : ∀ x : Str, x ≠ "__name__" → mb x = bootBuiltins x
  nodigits : ∃ mc, hb.Ns cStatics mc ∧ mc "sys.int_max_str_digits" = none
  hP0 : hb.get? P0 = none
  hN0 : hb.objs.size ≤ N0
  bmain : ∃ bm ob, mg "__builtins__" = some (.ref bm) ∧ bm ≠ builtinsNs ∧ hb.get? bm = some ob ∧ ob.cls = .type "module" ∧ ob.dict = some builtinsNs ∧ ob.data = .plain
noncomputable def Bs.mt (B : Bs) (b : Addr) : Prop := b = B.P0 ∨ B.N0 ≤ b
/-- a code object that stands, with its table -/
noncomputable def GoodCode (B : Bs) (h : Heap) (line col : Nat) (c : Addr) : Prop :=
  ∃ q, B.qual line col = some q ∧ ∃ o vs t P, h.get? c = some o ∧ o.cls = .type "code" ∧ o.data = .fields vs ∧ vs[1]? = some (.str q t) ∧ CodeHd h c P ∧ B.mt P
noncomputable def GoodTab (B : Bs) (h : Heap) : Nat → Addr → Prop
  | 0, P => ∃ ps, h.get? P = some (tabObj ps) ∧ TriplesOk ps.toList ∧ ∀ (pos : Pos) v, codeAmong pos ps.toList = some v → ∃ c, v = .ref c ∧ GoodCode B h pos.line pos.col c
  | k + 1, P => ∃ ps, h.get? P = some (tabObj ps) ∧ TriplesOk ps.toList ∧ ∀ (pos : Pos) v, codeAmong pos ps.toList = some v → ∃ c, v = .ref c ∧ GoodCode B h pos.line pos.col c ∧
      ∀ P', CodeHd h c P' → GoodTab B h k P'
/-- what a step keeps: all but F, and the tables that may grow stay good -/
structure Pres (B : Bs) (F : Addr → Prop) (h h' : Heap) : Prop where
  obj : ∀ b o, h.get? b = some o → (¬ F b ∨ isCode o) → (isVar o = false ∨ ¬ B.mt b) → h'.get? b = some o
  frm : ∀ b o, h.get? b = some o → ¬ F b → isFrm o = true → ∃ sl, h'.get? b = some { o with slots := sl }
  tab : ∀ k b, GoodTab B h k b → GoodTab B h' k b
  size : h.objs.size ≤ h'.objs.size
noncomputable abbrev none' : Addr → Prop := fun _ => False
theorem Pres.refl {B : Bs} {F : Addr → Prop} {h : Heap} : Pres B F h h := ⟨fun _ _ e _ _ => e, fun _ o e _ _ => ⟨o.slots, e⟩, fun _ _ x => x, Nat.le_refl _⟩
theorem Pres.data {B : Bs} {F : Addr → Prop} {h h' : Heap} (p : Pres B F h h') {b : Addr} {o : Obj} (e : h.get? b = some o) (hF : ¬ F b) (hd : ∀ vs, o.data ≠ .fields vs) : ∃ sl, h'.get? b = some { o with slots := sl } := by
  cases hf : isFrm o with
  | true => exact p.frm b o e hF hf
  | false => exact ⟨o.slots, p.obj b o e (.inl hF) (.inl (by
      unfold isVar; rw [hf, Bool.or_false]
      unfold isTab; split
      · rename_i vs _ hh; exact absurd hh (hd vs)
      · rfl))⟩
theorem Pres.trans {B : Bs} {F : Addr → Prop} {h₁ h₂ h₃ : Heap} (x : Pres B F h₁ h₂) (y : Pres B F h₂ h₃) : Pres B F h₁ h₃ :=
  ⟨fun b o e f t => y.obj b o (x.obj b o e f t) f t, fun b o e f t => by obtain ⟨sl, e'⟩ := x.frm b o e f t; obtain ⟨sl', e''⟩ := y.frm b _ e' f t; exact ⟨sl', e''⟩, fun k b g => y.tab k b (x.tab k b g), Nat.le_trans x.size y.size⟩
theorem Pres.weak {B : Bs} {F F' : Addr → Prop} {h h' : Heap} (x : Pres B F h h') (hF : ∀ b, F b → F' b) : Pres B F' h h' :=
  ⟨fun b o e f t => x.obj b o e (f.imp (fun n q => n (hF b q)) id) t, fun b o e f t => x.frm b o e (fun q => f (hF b q)) t, x.tab, x.size⟩
theorem Pres.any {B : Bs} {F : Addr → Prop} {h h' : Heap} (x : Pres B none' h h') : Pres B F h h' := x.weak fun _ q => q.elim
theorem GoodCode.keep {B : Bs} {h h' : Heap} {l k : Nat} {c : Addr} (x : GoodCode B h l k c) (hk : ∀ b o, h.get? b = some o → (isCode o ∨ isTab o = true) → h'.get? b = some o) : GoodCode B h' l k c := by
  obtain ⟨q, hq, o, vs, t, P, e, hc, hd, hv, hh, hm⟩ := x
  refine ⟨q, hq, o, vs, t, P, hk _ _ e (.inl ⟨hc, _, hd⟩), hc, hd, hv, ?_, hm⟩
  obtain ⟨o', vs', file, tf, flags, tg, inF, text, tt, e', hc', hd', r⟩ := hh
  exact ⟨o', vs', file, tf, flags, tg, inF, text, tt, hk _ _ e' (.inl ⟨hc', _, hd'⟩), hc', hd', r⟩
theorem CodeHd.back {h h' : Heap} {c P : Addr} {o : Obj} (hc : h.get? c = some o) (hc' : h'.get? c = some o) (x : CodeHd h' c P) : CodeHd h c P := by
  obtain ⟨o', vs', file, tf, flags, tg, inF, text, tt, e', r⟩ := x
  rw [hc'] at e'; cases e'
  exact ⟨_, vs', file, tf, flags, tg, inF, text, tt, hc, r⟩
theorem GoodTab.keep {B : Bs} {h h' : Heap} (hk : ∀ b o, h.get? b = some o → (isCode o ∨ isTab o = true) → h'.get? b = some o) : ∀ k P, GoodTab B h k P → GoodTab B h' k P
  | 0, P, ⟨ps, e, ht, hx⟩ => ⟨ps, hk _ _ e (.inr rfl), ht, fun pos v q => let ⟨c, e1, e2⟩ := hx pos v q; ⟨c, e1, e2.keep hk⟩⟩
  | k + 1, P, ⟨ps, e, ht, hx⟩ => ⟨ps, hk _ _ e (.inr rfl), ht, fun pos v q => let ⟨c, e1, e2, e3⟩ := hx pos v q
      ⟨c, e1, e2.keep hk, fun P' q' => by
        obtain ⟨_, _, o, _, _, _, eo, hc, hd, _⟩ := e2
        exact GoodTab.keep hk k P' (e3 P' (CodeHd.back eo (hk _ _ eo (.inl ⟨hc, _, hd⟩)) q'))⟩⟩
theorem Pres.of_keep {B : Bs} {F : Addr → Prop} {h h' : Heap} (hk : ∀ b o, h.get? b = some o → h'.get? b = some o) (hs : h.objs.size ≤ h'.objs.size) : Pres B F h h' :=
  ⟨fun b o e _ _ => hk b o e, fun b o e _ _ => ⟨o.slots, hk b o e⟩, GoodTab.keep fun b o e _ => hk b o e, hs⟩
theorem Pres.push {B : Bs} {F : Addr → Prop} {h : Heap} (o : Obj) : Pres B F h (h.push o) :=
  .of_keep (fun _ _ e => Heap.get?_push_of_some o e) (by rw [Heap.size_push]; omega)
/-- a thing that may be changed: no code object, no table -/
noncomputable def plainObj (o : Obj) : Prop := ¬ isCode o ∧ isTab o = false
theorem plain_dict {o : Obj} {es : Array DictEntry} {n : Nat} (h : o.data = .dict es n) : plainObj o := ⟨fun ⟨_, _, e⟩ => (by rw [h] at e; cases e), (by unfold isTab; rw [h]; split <;> first | rfl | simp_all)⟩
theorem plain_cell {o : Obj} {v : Option Value} (h : o.data = .cell v) : plainObj o := ⟨fun ⟨_, _, e⟩ => (by rw [h] at e; cases e), (by unfold isTab; rw [h]; split <;> first | rfl | simp_all)⟩
theorem plain_seq {o : Obj} {es : Array Value} {n : Nat} (h : o.data = .seq es n) : plainObj o := ⟨fun ⟨_, _, e⟩ => (by rw [h] at e; cases e), (by unfold isTab; rw [h]; split <;> first | rfl | simp_all)⟩
theorem plain_func {o : Obj} {f : FuncData} (h : o.data = .func f) : plainObj o := ⟨fun ⟨_, _, e⟩ => (by rw [h] at e; cases e), (by unfold isTab; rw [h]; split <;> first | rfl | simp_all)⟩
theorem plain_cls {o : Obj} {n : String} (h : o.cls = .type n) (hn : n ≠ "code") : plainObj o := ⟨fun ⟨e, _⟩ => by rw [h] at e; cases e; exact hn rfl, by unfold isTab; rw [h]⟩
theorem Pres.sameBut {B : Bs} {F : Addr → Prop} {h h' : Heap} {a : Addr} {o : Obj} (hs : Heap.SameBut a h h') (e : h.get? a = some o) (hp : plainObj o) (hF : F a) : Pres B F h h' := by
  refine ⟨fun b o' e' f _ => ?_, fun b o' e' f _ => ⟨o'.slots, (hs.2 b fun q => f (q ▸ hF)).trans e'⟩, GoodTab.keep fun b o' e' f => ?_, Nat.le_of_eq hs.1.symm⟩
  · by_cases hb : b = a
    · subst hb; rw [e] at e'; cases e'; exact absurd hF (f.resolve_right hp.1)
    · exact (hs.2 b hb).trans e'
  · by_cases hb : b = a
    · subst hb; rw [e] at e'; cases e'; rcases f with f | f
      · exact absurd f hp.1
      · rw [hp.2] at f; cases f
    · exact (hs.2 b hb).trans e'
theorem Pres.then {B : Bs} {F : Addr → Prop} {h₀ h h' : Heap} (x : Pres B none' h₀ h) (y : Pres B F h h') (hF : ∀ b, F b → h₀.get? b = none) : Pres B none' h₀ h' :=
  ⟨fun b o e f t => y.obj b o (x.obj b o e f t) (.inl fun q => by rw [hF b q] at e; cases e) t, fun b o e f t => by obtain ⟨sl, e'⟩ := x.frm b o e f t; obtain ⟨sl', e''⟩ := y.frm b _ e' (fun q => by rw [hF b q] at e; cases e) t; exact ⟨sl', e''⟩, fun k b g => y.tab k b (x.tab k b g), Nat.le_trans x.size y.size⟩
/-- what is said of a value: the F are the addresses it may not lean on -/
structure Pd (B : Bs) where
  p : (Addr → Prop) → Heap → Value → Prop
  mono : ∀ {F h h' v}, p F h v → Pres B F h h' → p F h' v
  weak : ∀ {F F' h v}, p F h v → (∀ b, F' b → F b ∨ h.get? b = none) → p F' h v
inductive D where
  | none
  | bool (b : Bool)
  | int (i : Int)
  | str (s : Str)
  | tup (l : List D)
  | lst (l : List D)
/-- a list or tuple as it lies -/
noncomputable def IsSeq (h : Heap) (T : String) (a : Addr) (vs : List Value) : Prop := ∃ n, h.get? a = some { cls := .type T, data := .seq vs.toArray n }
mutual
noncomputable def rep (F : Addr → Prop) (h : Heap) : Value → D → Prop
  | v, .none => v = .none
  | v, .bool b => v = .bool b
  | v, .int i => ∃ t, v = .int i t
  | v, .str s => ∃ t, v = .str s t
  | v, .tup l => ∃ a vs, v = .ref a ∧ ¬ F a ∧ IsSeq h "tuple" a vs ∧ reps F h vs l
  | v, .lst l => ∃ a vs, v = .ref a ∧ ¬ F a ∧ IsSeq h "list" a vs ∧ reps F h vs l
noncomputable def reps (F : Addr → Prop) (h : Heap) : List Value → List D → Prop
  | [], [] => True
  | v :: vs, d :: ds => rep F h v d ∧ reps F h vs ds
  | _, _ => False
end
theorem IsSeq.pres {B : Bs} {F : Addr → Prop} {h h' : Heap} {T : String} {a : Addr} {vs : List Value} (x : IsSeq h T a vs) (hF : ¬ F a) (p : Pres B F h h') : IsSeq h' T a vs :=
  let ⟨n, e⟩ := x; ⟨n, p.obj _ _ e (.inl hF) (.inl rfl)⟩
theorem ns_pres {B : Bs} {F : Addr → Prop} {h h' : Heap} {L : Addr} {m : Str → Option Value} (x : h.Ns L m) (hF : ¬ F L) (p : Pres B F h h') : h'.Ns L m := by
  obtain ⟨o, es, ep, e, hd, r⟩ := x
  obtain ⟨sl, e'⟩ := p.data e hF fun vs q => by rw [hd] at q; cases q
  exact ⟨_, es, ep, e', hd, r⟩
theorem cell_pres {B : Bs} {F : Addr → Prop} {h h' : Heap} {c : Addr} {v : Option Value} (x : h.IsCell c v) (hF : ¬ F c) (p : Pres B F h h') : h'.IsCell c v := by
  obtain ⟨o, e, hd⟩ := x
  obtain ⟨sl, e'⟩ := p.data e hF fun vs q => by rw [hd] at q; cases q
  exact ⟨_, e', hd⟩
mutual
theorem rep.mono {B : Bs} {F : Addr → Prop} {h h' : Heap} (p : Pres B F h h') : ∀ {v : Value} {d : D}, rep F h v d → rep F h' v d
  | _, .none, x => by simpa only [rep] using x
  | _, .bool _, x => by simpa only [rep] using x
  | _, .int _, x => by simpa only [rep] using x
  | _, .str _, x => by simpa only [rep] using x
  | _, .tup l, x => by
    simp only [rep] at x ⊢
    obtain ⟨a, vs, e, f, i, r⟩ := x
    exact ⟨a, vs, e, f, i.pres f p, reps.mono p r⟩
  | _, .lst l, x => by
    simp only [rep] at x ⊢
    obtain ⟨a, vs, e, f, i, r⟩ := x
    exact ⟨a, vs, e, f, i.pres f p, reps.mono p r⟩
theorem reps.mono {B : Bs} {F : Addr → Prop} {h h' : Heap} (p : Pres B F h h') : ∀ {vs : List Value} {ds : List D}, reps F h vs ds → reps F h' vs ds
  | [], [], x => by simp only [reps]
  | v :: vs, d :: ds, x => by simp only [reps] at x ⊢; exact ⟨rep.mono p x.1, reps.mono p x.2⟩
  | [], _ :: _, x => by simp [reps] at x
  | _ :: _, [], x => by simp [reps] at x
end
mutual
theorem rep.weak {F F' : Addr → Prop} {h : Heap} (hF : ∀ b, F' b → F b ∨ h.get? b = none) : ∀ {v : Value} {d : D}, rep F h v d → rep F' h v d
  | _, .none, x => by simpa only [rep] using x
  | _, .bool _, x => by simpa only [rep] using x
  | _, .int _, x => by simpa only [rep] using x
  | _, .str _, x => by simpa only [rep] using x
  | _, .tup l, x => by
    simp only [rep] at x ⊢
    obtain ⟨a, vs, e, f, ⟨n, i⟩, r⟩ := x
    exact ⟨a, vs, e, fun q => (hF a q).elim f (fun z => by rw [z] at i; cases i), ⟨n, i⟩, reps.weak hF r⟩
  | _, .lst l, x => by
    simp only [rep] at x ⊢
    obtain ⟨a, vs, e, f, ⟨n, i⟩, r⟩ := x
    exact ⟨a, vs, e, fun q => (hF a q).elim f (fun z => by rw [z] at i; cases i), ⟨n, i⟩, reps.weak hF r⟩
theorem reps.weak {F F' : Addr → Prop} {h : Heap} (hF : ∀ b, F' b → F b ∨ h.get? b = none) : ∀ {vs : List Value} {ds : List D}, reps F h vs ds → reps F' h vs ds
  | [], [], x => by simp only [reps]
  | v :: vs, d :: ds, x => by simp only [reps] at x ⊢; exact ⟨rep.weak hF x.1, reps.weak hF x.2⟩
  | [], _ :: _, x => by simp [reps] at x
  | _ :: _, [], x => by simp [reps] at x
end
noncomputable def pd {B : Bs} (d : D) : Pd B := ⟨fun F h v => rep F h v d, fun x p => x.mono p, fun x hF => x.weak hF⟩
/-- this very value, which leans on nothing -/
noncomputable def pv {B : Bs} (v : Value) : Pd B := ⟨fun _ _ u => u = v, fun x _ => x, fun x _ => x⟩
noncomputable abbrev pint {B : Bs} (i : Int) : Pd B := pd (.int i)
noncomputable abbrev pstr {B : Bs} (s : Str) : Pd B := pd (.str s)
noncomputable abbrev pbool {B : Bs} (b : Bool) : Pd B := pd (.bool b)
noncomputable abbrev pnone {B : Bs} : Pd B := pd .none
noncomputable def all2 {B : Bs} (F : Addr → Prop) (h : Heap) : List (Pd B) → List Value → Prop
  | [], [] => True
  | P :: Ps, v :: vs => P.p F h v ∧ all2 F h Ps vs
  | _, _ => False
theorem all2.mono {B : Bs} {F : Addr → Prop} {h h' : Heap} (p : Pres B F h h') : ∀ {Ps : List (Pd B)} {vs : List Value}, all2 F h Ps vs → all2 F h' Ps vs
  | [], [], _ => trivial
  | P :: _, _ :: _, x => ⟨P.mono x.1 p, all2.mono p x.2⟩
  | [], _ :: _, x => x.elim
  | _ :: _, [], x => x.elim
theorem all2.weak {B : Bs} {F F' : Addr → Prop} {h : Heap} (hF : ∀ b, F' b → F b ∨ h.get? b = none) : ∀ {Ps : List (Pd B)} {vs : List Value}, all2 F h Ps vs → all2 F' h Ps vs
  | [], [], _ => trivial
  | P :: _, _ :: _, x => ⟨P.weak x.1 hF, all2.weak hF x.2⟩
  | [], _ :: _, x => x.elim
  | _ :: _, [], x => x.elim
theorem all2.length {B : Bs} {F : Addr → Prop} {h : Heap} : ∀ {Ps : List (Pd B)} {vs : List Value}, all2 F h Ps vs → vs.length = Ps.length
  | [], [], _ => rfl
  | _ :: _, _ :: _, x => congrArg (· + 1) (all2.length x.2)
  | [], _ :: _, x => x.elim
  | _ :: _, [], x => x.elim
theorem all2.get {B : Bs} {F : Addr → Prop} {h : Heap} : ∀ {Ps : List (Pd B)} {vs : List Value}, all2 F h Ps vs → ∀ {i : Nat} {P : Pd B}, Ps[i]? = some P → ∃ v, vs[i]? = some v ∧ P.p F h v
  | P :: _, v :: _, x, 0, _, e => by cases e; exact ⟨v, rfl, x.1⟩
  | _ :: _, _ :: _, x, i + 1, _, e => by simpa using all2.get x.2 (i := i) (by simpa using e)
  | [], [], _, _, _, e => by simp at e
  | [], _ :: _, x, _, _, _ => x.elim
  | _ :: _, [], x, _, _, _ => x.elim
theorem all2.append {B : Bs} {F : Addr → Prop} {h : Heap} : ∀ {Ps : List (Pd B)} {vs : List Value} {Ps' : List (Pd B)} {vs' : List Value}, all2 F h Ps vs → all2 F h Ps' vs' → all2 F h (Ps ++ Ps') (vs ++ vs')
  | [], [], _, _, _, y => y
  | _ :: _, _ :: _, _, _, x, y => ⟨x.1, all2.append x.2 y⟩
  | [], _ :: _, _, _, x, _ => x.elim
  | _ :: _, [], _, _, x, _ => x.elim
theorem all2.pds {B : Bs} {F : Addr → Prop} {h : Heap} : ∀ {ds : List D} {vs : List Value}, all2 (B := B) F h (ds.map pd) vs ↔ reps F h vs ds
  | [], [] => by simp [all2, reps]
  | _ :: ds, _ :: vs => by simp only [List.map_cons, all2, reps, all2.pds (ds := ds) (vs := vs)]; rfl
  | [], _ :: _ => by simp [all2, reps]
  | _ :: _, [] => by simp [all2, reps]
/-- the text's own things stand -/
structure Base (B : Bs) (h : Heap) : Prop where
  keep : ∀ b o, B.hb.get? b = some o → h.get? b = some o
  tab : GoodTab B h 1 B.P0
  size : B.N0 ≤ h.objs.size
theorem Base.pres {B : Bs} {h h' : Heap} (x : Base B h) (p : Pres B none' h h') : Base B h' where
  keep := fun b o e => p.obj b o (x.keep b o e) (.inl fun q => q) (.inr fun q => by
    rcases q with rfl | q
    · rw [B.hP0] at e; cases e
    · exact absurd (Heap.lt_size e) (Nat.not_lt.mpr (Nat.le_trans B.hN0 q)))
  tab := p.tab _ _ x.tab
  size := Nat.le_trans x.size p.size
structure Cx (B : Bs) where
  A : Around
  env : Env
  h₀ : Heap
  stor : Str → Bool := fun _ => true
noncomputable abbrev Rho (B : Bs) := Str → Option (Pd B)
noncomputable abbrev Mu (B : Bs) := Addr → Option (List (Pd B))
/-- the frames on the stack: their objects stand, or are the frame at hand -/
noncomputable def StkC {B : Bs} (C : Cx B) : Prop := ∃ l, C.A.frames = some l ∧ ∀ env ∈ l, env.scope.kind = .function ∧ ∃ L, env.frame = some L ∧ B.N0 ≤ L ∧ (L = C.env.locals ∨ ∃ o es n, C.h₀.get? L = some o ∧ o.data = .dict es n)
/-- the frames on the stack stand -/
noncomputable def Stk (B : Bs) (A : Around) (h : Heap) : Prop := ∃ l, A.frames = some l ∧ ∀ env ∈ l, env.scope.kind = .function ∧ ∃ L, env.frame = some L ∧ B.N0 ≤ L ∧ ∃ o es n, h.get? L = some o ∧ o.data = .dict es n
structure Frm {B : Bs} (C : Cx B) (F : Addr → Prop) (h : Heap) (ρ : Rho B) (μ : Mu B) : Prop where
  base : Base B C.h₀
  pres : Pres B none' C.h₀ h
  kind : C.env.scope.kind = .function
  glob : C.env.globals = mainGlobals
  blt : C.env.builtins = builtinsNs
  fl : F C.env.locals
  lt : ∀ b, F b → b < h.objs.size
  fresh : C.h₀.get? C.env.locals = none
  stk : StkC C
  loc : ∃ m, h.Ns C.env.locals m ∧ ∀ x P, ρ x = some P → C.env.kindOf x = some .local → ∃ v, m x = some v ∧ P.p F h v
  cel : ∀ x P, ρ x = some P → (C.env.kindOf x = some .cell ∨ C.env.kindOf x = some .free) → ∃ c v, C.env.cells.lookup x = some c ∧ h.IsCell c (some v) ∧ P.p F h v
  kinds : ∀ x P, ρ x = some P → C.env.kindOf x = some .local ∨ C.env.kindOf x = some .cell ∨ C.env.kindOf x = some .free
  own : ∀ x, C.stor x = true → C.env.kindOf x = some .cell → ∃ c v, C.env.cells.lookup x = some c ∧ F c ∧ C.h₀.objs.size ≤ c ∧ h.IsCell c v
  inj : ∀ x y c, C.env.cells.lookup x = some c → C.env.cells.lookup y = some c → x = y
  lst : ∀ a Ps, μ a = some Ps → F a ∧ C.h₀.objs.size ≤ a ∧ ∃ vs, IsSeq h "list" a vs ∧ all2 F h Ps vs
theorem Frm.step {B : Bs} {C : Cx B} {F : Addr → Prop} {h h' : Heap} {ρ : Rho B} {μ : Mu B} (f : Frm C F h ρ μ) (p : Pres B none' h h') : Frm C F h' ρ μ where
  base := f.base
  pres := f.pres.trans p
  kind := f.kind
  glob := f.glob
  blt := f.blt
  fl := f.fl
  lt := fun b q => Nat.lt_of_lt_of_le (f.lt b q) p.size
  fresh := f.fresh
  stk := f.stk
  loc := by
    obtain ⟨m, hn, hm⟩ := f.loc
    exact ⟨m, ns_pres hn (fun q => q) p, fun x P q k => let ⟨v, a, b⟩ := hm x P q k; ⟨v, a, P.mono b p.any⟩⟩
  cel := fun x P q k => let ⟨c, v, a, e, b⟩ := f.cel x P q k; ⟨c, v, a, cell_pres e (fun q => q) p, P.mono b p.any⟩
  kinds := f.kinds
  own := fun x q k => let ⟨c, v, a, b, d, e⟩ := f.own x q k; ⟨c, v, a, b, d, cell_pres e (fun q => q) p⟩
  inj := f.inj
  lst := fun a Ps q => let ⟨x, y, vs, z, w⟩ := f.lst a Ps q; ⟨x, y, vs, z.pres (F := none') (fun q => q) p, w.mono p.any⟩
/-- a step on which the F may win what is new -/
theorem Frm.grow {B : Bs} {C : Cx B} {F F' : Addr → Prop} {h h' : Heap} {ρ : Rho B} {μ : Mu B} (f : Frm C F h ρ μ) (p : Pres B none' h h') (hF : ∀ b, F' b → F b ∨ h.get? b = none) (hF' : ∀ b, F b → F' b) (hlt : ∀ b, F' b → b < h'.objs.size) : Frm C F' h' ρ μ where
  base := f.base
  pres := f.pres.trans p
  kind := f.kind
  glob := f.glob
  blt := f.blt
  fl := hF' _ f.fl
  lt := hlt
  fresh := f.fresh
  stk := f.stk
  loc := by
    obtain ⟨m, hn, hm⟩ := f.loc
    exact ⟨m, ns_pres hn (fun q => q) p, fun x P q k => let ⟨v, a, b⟩ := hm x P q k; ⟨v, a, P.mono (P.weak b hF) p.any⟩⟩
  cel := fun x P q k => let ⟨c, v, a, e, b⟩ := f.cel x P q k; ⟨c, v, a, cell_pres e (fun q => q) p, P.mono (P.weak b hF) p.any⟩
  kinds := f.kinds
  own := fun x q k => let ⟨c, v, a, b, d, e⟩ := f.own x q k; ⟨c, v, a, hF' _ b, d, cell_pres e (fun q => q) p⟩
  inj := f.inj
  lst := fun a Ps q => let ⟨x, y, vs, z, w⟩ := f.lst a Ps q; ⟨hF' _ x, y, vs, z.pres (F := none') (fun q => q) p, (w.weak hF).mono p.any⟩
theorem Frm.stack {B : Bs} {C : Cx B} {F : Addr → Prop} {h : Heap} {ρ : Rho B} {μ : Mu B} (f : Frm C F h ρ μ) : Stk B C.A h := by
  obtain ⟨l, e, hl⟩ := f.stk
  refine ⟨l, e, fun env he => ?_⟩
  obtain ⟨hk, L, hf, hn, hL⟩ := hl env he
  refine ⟨hk, L, hf, hn, ?_⟩
  rcases hL with rfl | ⟨o, es, n, ho, hd⟩
  · obtain ⟨m, ⟨o, es, ep, eo, hd, _⟩, _⟩ := f.loc
    exact ⟨o, es, ep, eo, hd⟩
  · obtain ⟨sl, e'⟩ := f.pres.data ho (fun q => q) fun vs q => by rw [hd] at q; cases q
    exact ⟨_, es, n, e', hd⟩
theorem Stk.pres {B : Bs} {A : Around} {h h' : Heap} (x : Stk B A h) (p : Pres B none' h h') : Stk B A h' := by
  obtain ⟨l, e, hl⟩ := x
  refine ⟨l, e, fun env he => ?_⟩
  obtain ⟨hk, L, hf, hn, o, es, n, ho, hd⟩ := hl env he
  obtain ⟨sl, e'⟩ := p.data ho (fun q => q) fun vs q => by rw [hd] at q; cases q
  exact ⟨hk, L, hf, hn, _, es, n, e', hd⟩
structure Rest (s s' : Shared) : Prop where
  gens : s'.gens = s.gens
  os : s'.os = s.os
  drawn : s'.drawn = s.drawn
theorem Rest.refl {s : Shared} : Rest s s := ⟨rfl, rfl, rfl⟩
theorem Rest.trans {s s' s'' : Shared} (x : Rest s s') (y : Rest s' s'') : Rest s s'' := ⟨y.1.trans x.1, y.2.trans x.2, y.3.trans x.3⟩
structure Stp (B : Bs) (s s' : Shared) : Prop where
  p : Pres B none' s.heap s'.heap
  r : Rest s s'
theorem Stp.refl {B : Bs} {s : Shared} : Stp B s s := ⟨.refl, .refl⟩
theorem Stp.trans {B : Bs} {s s' s'' : Shared} (x : Stp B s s') (y : Stp B s' s'') : Stp B s s'' := ⟨x.p.trans y.p, x.r.trans y.r⟩
theorem Stp.toks {B : Bs} {s : Shared} {n : Nat} : Stp B s { s with toks := n } := ⟨.refl, ⟨rfl, rfl, rfl⟩⟩
theorem Stp.push {B : Bs} {s : Shared} (o : Obj) : Stp B s { s with heap := s.heap.push o } := ⟨.push o, ⟨rfl, rfl, rfl⟩⟩
noncomputable abbrev md (B : Bs) : Model := model B.prog B.w
noncomputable abbrev noE : Value → Shared → Prop := fun _ _ => False
noncomputable def Ev {B : Bs} (C : Cx B) (ρ : Rho B) (μ : Mu B) (e : Expr) (P : Pd B) : Prop :=
  ∀ F s, Frm C F s.heap ρ μ → wpAny (md B) C.A (eval e C.env) (fun v s' => Stp B s s' ∧ P.p F s'.heap v) noE s
noncomputable def EvT {B : Bs} (C : Cx B) (ρ : Rho B) (μ : Mu B) (e : Expr) (b : Bool) : Prop :=
  ∀ F s, Frm C F s.heap ρ μ → wpAny (md B) C.A (isTrue e C.env (eval e C.env)) (fun v s' => Stp B s s' ∧ v = b) noE s
noncomputable def EvL {B : Bs} (C : Cx B) (ρ : Rho B) (μ : Mu B) (es : List Expr) (Ps : List (Pd B)) : Prop :=
  ∀ F s pos, Frm C F s.heap ρ μ → wpAny (md B) C.A (spliced (backTo pos (starEach es C.env))) (fun vs s' => Stp B s s' ∧ all2 F s'.heap Ps vs) noE s
inductive Out (B : Bs) where
  | next (ρ : Rho B) (μ : Mu B)
  | brk (ρ : Rho B) (μ : Mu B)
  | cont (ρ : Rho B) (μ : Mu B)
  | ret (P : Pd B)
noncomputable def low (F : Addr → Prop) (n : Nat) : Addr → Prop := fun b => F b ∧ b < n
/-- what a frame's code may change -/
noncomputable def Mut {B : Bs} (C : Cx B) (μ : Mu B) : Addr → Prop := fun b => b = C.env.locals ∨ (∃ x, C.stor x = true ∧ C.env.kindOf x = some .cell ∧ C.env.cells.lookup x = some b) ∨ (μ b).isSome = true
theorem Frm.mutF {B : Bs} {C : Cx B} {F : Addr → Prop} {h : Heap} {ρ : Rho B} {μ : Mu B} (f : Frm C F h ρ μ) {b : Addr} (q : Mut C μ b) : F b := by
  rcases q with rfl | ⟨x, h1, h2, h3⟩ | q
  · exact f.fl
  · obtain ⟨c, v, hl, hF, _⟩ := f.own x h1 h2; rw [h3] at hl; cases hl; exact hF
  · obtain ⟨Ps, e⟩ := Option.isSome_iff_exists.mp q; exact (f.lst b Ps e).1
/-- on to the next statement, from μ and h: the F may grow, by what is new -/
structure Nxt {B : Bs} (C : Cx B) (F : Addr → Prop) (μ : Mu B) (h : Heap) (ρ' : Rho B) (μ' : Mu B) (h' : Heap) (F' : Addr → Prop) : Prop where
  up : ∀ b, F b → F' b
  new : ∀ b, F' b → F b ∨ h.objs.size ≤ b
  frm : Frm C F' h' ρ' μ'
  dom : ∀ b, (μ' b).isSome = true → (μ b).isSome = true ∨ h.objs.size ≤ b
noncomputable def OutM {B : Bs} (C : Cx B) (F : Addr → Prop) (μ : Mu B) (h : Heap) (o : Out B) (f : Flow) (h' : Heap) : Prop := match o, f with
  | .next ρ' μ', .next => ∃ F', Nxt C F μ h ρ' μ' h' F'
  | .brk ρ' μ', .brk => ∃ F', Nxt C F μ h ρ' μ' h' F'
  | .cont ρ' μ', .cont => ∃ F', Nxt C F μ h ρ' μ' h' F'
  | .ret P, .ret v => Pres B none' C.h₀ h' ∧ P.p (low F C.h₀.objs.size) h' v
  | _, _ => False
noncomputable def OutOk {B : Bs} (C : Cx B) (F : Addr → Prop) (μ : Mu B) (h : Heap) (o : Out B) (f : Flow) (h' : Heap) : Prop := Pres B (Mut C μ) h h' ∧ OutM C F μ h o f h'
theorem Mut.back {B : Bs} {C : Cx B} {μ μ' : Mu B} {h : Heap} {b : Addr} {o : Obj} (d : ∀ b, (μ' b).isSome = true → (μ b).isSome = true ∨ h.objs.size ≤ b) (e : h.get? b = some o) (q : Mut C μ' b) : Mut C μ b := by
  rcases q with q | q | q
  · exact .inl q
  · exact .inr (.inl q)
  · rcases d b q with q | q
    · exact .inr (.inr q)
    · exact absurd (Heap.lt_size e) (Nat.not_lt.mpr q)
theorem Pres.mut {B : Bs} {C : Cx B} {μ μ' : Mu B} {h h₁ h₂ : Heap} (d : ∀ b, (μ' b).isSome = true → (μ b).isSome = true ∨ h.objs.size ≤ b) (x : Pres B (Mut C μ) h h₁) (y : Pres B (Mut C μ') h₁ h₂) : Pres B (Mut C μ) h h₂ :=
  ⟨fun b o e f t => y.obj b o (x.obj b o e f t) (f.imp (fun n q => n (q.back d e)) id) t, fun b o e f t => by obtain ⟨sl, e'⟩ := x.frm b o e f t; obtain ⟨sl', e''⟩ := y.frm b _ e' (fun q => f (q.back d e)) t; exact ⟨sl', e''⟩, fun k b g => y.tab k b (x.tab k b g), Nat.le_trans x.size y.size⟩
theorem Nxt.outM {B : Bs} {C : Cx B} {F F' : Addr → Prop} {μ μ₁ : Mu B} {ρ₁ : Rho B} {h h₁ h₂ : Heap} {o : Out B} {f : Flow} (hs : h.objs.size ≤ h₁.objs.size) (n : Nxt C F μ h ρ₁ μ₁ h₁ F') (x : OutM C F' μ₁ h₁ o f h₂) : OutM C F μ h o f h₂ := by
  have key : ∀ {ρ' : Rho B} {μ' : Mu B}, (∃ F'', Nxt C F' μ₁ h₁ ρ' μ' h₂ F'') → ∃ F'', Nxt C F μ h ρ' μ' h₂ F'' := fun ⟨F'', y⟩ => ⟨F'', fun b q => y.up b (n.up b q), fun b q => (y.new b q).elim (n.new b) fun q => .inr (Nat.le_trans hs q), y.frm, fun b q =>
    (y.dom b q).elim (n.dom b) fun q => .inr (Nat.le_trans hs q)⟩
  cases o <;> cases f <;> first
    | exact x.elim
    | exact key x
    | exact ⟨x.1, Pd.weak _ x.2 fun b q => .inl ⟨n.up b q.1, q.2⟩⟩
theorem Nxt.out {B : Bs} {C : Cx B} {F F' : Addr → Prop} {μ μ₁ : Mu B} {ρ₁ : Rho B} {h h₁ h₂ : Heap} {o : Out B} {f : Flow} (p : Pres B (Mut C μ) h h₁) (n : Nxt C F μ h ρ₁ μ₁ h₁ F') (x : OutOk C F' μ₁ h₁ o f h₂) : OutOk C F μ h o f h₂ :=
  ⟨p.mut n.dom x.1, n.outM p.size x.2⟩
noncomputable def Ex {B : Bs} (C : Cx B) (ρ : Rho B) (μ : Mu B) (sts : List Stmt) (o : Out B) : Prop :=
  ∀ F s, Frm C F s.heap ρ μ → wpAny (md B) C.A (execs sts C.env) (fun f s' => Rest s s' ∧ OutOk C F μ s.heap o f s'.heap) noE s
noncomputable def Ex1 {B : Bs} (C : Cx B) (ρ : Rho B) (μ : Mu B) (st : Stmt) (o : Out B) : Prop :=
  ∀ F s, Frm C F s.heap ρ μ → wpAny (md B) C.A (exec st C.env) (fun f s' => Rest s s' ∧ OutOk C F μ s.heap o f s'.heap) noE s
end Mine
set_option genSizeOf true
open PySem PySem.W PyProof.Rows
set_option Elab.async false
set_option maxRecDepth 100000
set_option linter.unusedVariables false
namespace Mine
variable {B : Bs} {C : Cx B} {ρ : Rho B} {μ : Mu B}
theorem wpMono {α : Type} {M : Model} {A : Around} {t : Sem α} {Q Q' : α → Shared → Prop} {s : Shared} {E : Value → Shared → Prop} (h : wpAny M A t Q noE s) (hQ : ∀ a s, Q a s → Q' a s) : wpAny M A t Q' E s :=
  wpAny_mono h hQ fun _ _ x => x.elim
theorem Frm.h {F : Addr → Prop} {h : Heap} (f : Frm C F h ρ μ) : Base B h := f.base.pres f.pres
theorem Frm.ns {F : Addr → Prop} {h : Heap} (f : Frm C F h ρ μ) : h.Ns mainGlobals B.mg := B.g.keeps f.h.keep
theorem Frm.nsb {F : Addr → Prop} {h : Heap} (f : Frm C F h ρ μ) : h.Ns builtinsNs B.mb := B.b.keeps f.h.keep
theorem Ev.name {x : Str} {pos : Pos} {P : Pd B} (hx : ρ x = some P) (hd : (x == ("__debug__" : Str)) = false := by decide) (hc : (x == ("__classdict__" : Str)) = false := by decide) : Ev C ρ μ (.Name x pos) P := by
  intro F s f
  rcases f.kinds x P hx with k | k | k
  · obtain ⟨m, hn, hm⟩ := f.loc
    obtain ⟨v, hv, hp⟩ := hm x P hx k
    exact wpAny_Name (wpAny_loadName_local f.kind k hn hv ⟨.refl, hp⟩) hd
  · obtain ⟨c, v, hl, hv, hp⟩ := f.cel x P hx (.inl k)
    exact wpAny_Name (wpAny_loadName_cell f.kind k hl hv ⟨.refl, hp⟩) hd
  · obtain ⟨c, v, hl, hv, hp⟩ := f.cel x P hx (.inr k)
    exact wpAny_Name (wpAny_loadName_free f.kind k hl hv ⟨.refl, hp⟩ hc) hd
theorem Ev.glob {x : Str} {pos : Pos} {v : Value} (hk : C.env.kindOf x = some .globalImplicit) (hv : B.mg x = some v) (hd : (x == ("__debug__" : Str)) = false := by decide) : Ev C ρ μ (.Name x pos) (pv v) := by
  intro F s f
  refine wpAny_Name ?_ hd
  rw [loadName_read f.kind hk]
  exact PySem.Calls.loadGlobal_global (by rw [f.glob]; exact f.ns) hv ⟨.refl, rfl⟩
theorem Ev.blt {x : Str} {pos : Pos} {v : Value} (hk : C.env.kindOf x = some .globalImplicit) (hm : B.mg x = none) (hv : B.mb x = some v) (hd : (x == ("__debug__" : Str)) = false := by decide) : Ev C ρ μ (.Name x pos) (pv v) := by
  intro F s f
  refine wpAny_Name ?_ hd
  rw [loadName_read f.kind hk]
  exact PySem.Calls.loadGlobal_builtin (by rw [f.glob]; exact f.ns) hm (by rw [f.blt]; exact f.nsb) hv ⟨.refl, rfl⟩
theorem Ev.int {i : Int} {k pos} : Ev C ρ μ (.Constant (.int i) k pos) (pint i) := fun _ _ _ => wpAny_Constant_int ⟨.toks, by simp [pd, rep]⟩
theorem Ev.str {x : Str} {k pos} : Ev C ρ μ (.Constant (.str x) k pos) (pstr x) := fun _ _ _ => wpAny_Constant_str ⟨.toks, by simp [pd, rep]⟩
theorem Ev.bool {b : Bool} {k pos} : Ev C ρ μ (.Constant (.bool b) k pos) (pbool b) := fun _ _ _ => wpAny_Constant_bool ⟨.refl, by simp [pd, rep]⟩
theorem Ev.none {k pos} : Ev C ρ μ (.Constant .none k pos) pnone := fun _ _ _ => wpAny_Constant_none ⟨.refl, by simp [pd, rep]⟩
/-- two operands, then an operation of their values -/
theorem Ev.bin {l r : Expr} {op : Operator} {pos : Pos} {P Q R : Pd B} (hl : Ev C ρ μ l P) (hr : Ev C ρ μ r Q)
    (h : ∀ F s a b, Frm C F s.heap ρ μ → P.p F s.heap a → Q.p F s.heap b → wpAny (md B) C.A (binaryOp op a b) (fun v s' => Stp B s s' ∧ R.p F s'.heap v) noE s) : Ev C ρ μ (.BinOp l op r pos) R := by
  intro F s f
  refine wpAny_BinOp (wpMono (hl F s f) fun a s₁ ⟨p₁, h₁⟩ => wpMono (hr F s₁ (f.step p₁.p)) fun b s₂ ⟨p₂, h₂⟩ => ?_)
  exact wpMono (h F s₂ a b ((f.step p₁.p).step p₂.p) (P.mono h₁ p₂.p.any) h₂) fun v s₃ ⟨p₃, h₃⟩ => ⟨(p₁.trans p₂).trans p₃, h₃⟩
theorem int_of {F : Addr → Prop} {h : Heap} {i : Int} {v : Value} (x : (pint (B := B) i).p F h v) : ∃ t, v = .int i t := by simpa [pd, rep] using x
theorem str_of {F : Addr → Prop} {h : Heap} {i : Str} {v : Value} (x : (pstr (B := B) i).p F h v) : ∃ t, v = .str i t := by simpa [pd, rep] using x
theorem bool_of {F : Addr → Prop} {h : Heap} {i : Bool} {v : Value} (x : (pbool (B := B) i).p F h v) : v = .bool i := by simpa [pd, rep] using x
theorem none_of {F : Addr → Prop} {h : Heap} {v : Value} (x : (pnone (B := B)).p F h v) : v = .none := by simpa [pd, rep] using x
theorem of_int {F : Addr → Prop} {h : Heap} {i : Int} {t : Tok} : (pint (B := B) i).p F h (.int i t) := by simp [pd, rep]
theorem of_str {F : Addr → Prop} {h : Heap} {i : Str} {t : Tok} : (pstr (B := B) i).p F h (.str i t) := by simp [pd, rep]
theorem of_bool {F : Addr → Prop} {h : Heap} {i : Bool} : (pbool (B := B) i).p F h (.bool i) := by simp [pd, rep]
theorem of_none {F : Addr → Prop} {h : Heap} : (pnone (B := B)).p F h .none := by simp [pd, rep]
theorem Ev.add {l r : Expr} {pos : Pos} {i j : Int} (hl : Ev C ρ μ l (pint i)) (hr : Ev C ρ μ r (pint j)) : Ev C ρ μ (.BinOp l .Add r pos) (pint (i + j)) :=
  Ev.bin hl hr fun F s a b _ ha hb => by obtain ⟨t, rfl⟩ := int_of ha; obtain ⟨u, rfl⟩ := int_of hb; exact add_int ⟨.toks, of_int⟩
theorem Ev.sub {l r : Expr} {pos : Pos} {i j : Int} (hl : Ev C ρ μ l (pint i)) (hr : Ev C ρ μ r (pint j)) : Ev C ρ μ (.BinOp l .Sub r pos) (pint (i - j)) :=
  Ev.bin hl hr fun F s a b _ ha hb => by obtain ⟨t, rfl⟩ := int_of ha; obtain ⟨u, rfl⟩ := int_of hb; exact sub_int ⟨.toks, of_int⟩
theorem Ev.mod {l r : Expr} {pos : Pos} {i j : Int} (hl : Ev C ρ μ l (pint i)) (hr : Ev C ρ μ r (pint j)) (hj : j ≠ 0) : Ev C ρ μ (.BinOp l .Mod r pos) (pint (i.fmod j)) :=
  Ev.bin hl hr fun F s a b _ ha hb => by obtain ⟨t, rfl⟩ := int_of ha; obtain ⟨u, rfl⟩ := int_of hb; exact mod_int' hj ⟨.toks, of_int⟩
theorem Ev.fdiv {l r : Expr} {pos : Pos} {i j : Int} (hl : Ev C ρ μ l (pint i)) (hr : Ev C ρ μ r (pint j)) (hj : j ≠ 0) (hs : j.natAbs < 2 ^ 64) : Ev C ρ μ (.BinOp l .FloorDiv r pos) (pint (i.fdiv j)) :=
  Ev.bin hl hr fun F s a b _ ha hb => by
    obtain ⟨t, rfl⟩ := int_of ha; obtain ⟨u, rfl⟩ := int_of hb
    refine floordiv_int hj ⟨.toks, of_int⟩ (.inl ?_)
    unfold Builtin.divisionGoesByPylong
    have : (if (j == 0) = true then 0 else j.natAbs.log2 / 30 + 1) ≤ 300 := by
      split
      · omega
      · have h2 : j.natAbs.log2 < 64 := (Nat.log2_lt (by omega)).mpr hs
        omega
    simp only [Bool.and_eq_false_iff, decide_eq_false_iff_not]
    left; omega
theorem Ev.mul {l r : Expr} {pos : Pos} {i j : Int} (hl : Ev C ρ μ l (pint i)) (hr : Ev C ρ μ r (pint j)) (hm : IntMulOk i j) : Ev C ρ μ (.BinOp l .Mult r pos) (pint (i * j)) :=
  Ev.bin hl hr fun F s a b _ ha hb => by obtain ⟨t, rfl⟩ := int_of ha; obtain ⟨u, rfl⟩ := int_of hb; exact mul_int ⟨.toks, of_int⟩ hm
theorem Ev.pow {l r : Expr} {pos : Pos} {i j : Int} (hl : Ev C ρ μ l (pint i)) (hr : Ev C ρ μ r (pint j)) (hj : 0 ≤ j) (hs : (Builtin.Int.intBits i : Int) * j ≤ 2 ^ 27) : Ev C ρ μ (.BinOp l .Pow r pos) (pint (i ^ j.toNat)) :=
  Ev.bin hl hr fun F s a b _ ha hb => by obtain ⟨t, rfl⟩ := int_of ha; obtain ⟨u, rfl⟩ := int_of hb; exact pow_int hj hs ⟨.toks, of_int⟩
theorem Ev.cat {l r : Expr} {pos : Pos} {i j : Str} (hl : Ev C ρ μ l (pstr i)) (hr : Ev C ρ μ r (pstr j)) (hs : i.length + j.length ≤ sizeLine) : Ev C ρ μ (.BinOp l .Add r pos) (pstr (i ++ j)) :=
  Ev.bin hl hr fun F s a b _ ha hb => by obtain ⟨t, rfl⟩ := str_of ha; obtain ⟨u, rfl⟩ := str_of hb; exact add_str (fun _ _ => ⟨.toks, of_str⟩) hs
theorem Ev.neg {e : Expr} {pos : Pos} {i : Int} (h : Ev C ρ μ e (pint i)) : Ev C ρ μ (.UnaryOp .USub e pos) (pint (-i)) := fun F s f =>
  wpAny_UnaryOp (wpMono (h F s f) fun a s₁ ⟨p₁, h₁⟩ => by obtain ⟨t, rfl⟩ := int_of h₁; exact P.neg_int ⟨p₁.trans .toks, of_int⟩)
/-- comparisons -/
theorem Ev.cmp {l r : Expr} {op : CmpOp} {pos : Pos} {P Q R : Pd B} (hl : Ev C ρ μ l P) (hr : Ev C ρ μ r Q)
    (h : ∀ F s a b, Frm C F s.heap ρ μ → P.p F s.heap a → Q.p F s.heap b → wpAny (md B) C.A (compareOp op a b) (fun v s' => Stp B s s' ∧ R.p F s'.heap v) noE s)
    (hm : behindInMarks op r = false := by with_unfolding_all rfl) : Ev C ρ μ (.Compare l [op] [r] pos) R := by
  intro F s f
  refine wpAny_Compare1 (wpMono (hl F s f) fun a s₁ ⟨p₁, h₁⟩ => wpMono (hr F s₁ (f.step p₁.p)) fun b s₂ ⟨p₂, h₂⟩ => ?_) hm
  exact wpMono (h F s₂ a b ((f.step p₁.p).step p₂.p) (P.mono h₁ p₂.p.any) h₂) fun v s₃ ⟨p₃, h₃⟩ => ⟨(p₁.trans p₂).trans p₃, h₃⟩
/-- the value of a comparison op on two ints, or two strs -/
noncomputable def cmpI : CmpOp → Int → Int → Bool
  | .Eq, a, b => a == b
  | .NotEq, a, b => a != b
  | .Lt, a, b => decide (a < b)
  | .LtE, a, b => decide (a ≤ b)
  | .Gt, a, b => decide (b < a)
  | .GtE, a, b => decide (b ≤ a)
  | _, _, _ => false
noncomputable def isOrd : CmpOp → Bool
  | .Eq | .NotEq | .Lt | .LtE | .Gt | .GtE => true
  | _ => false
theorem cmp_ints {A : Around} {i j : Int} {t u : Tok} {s : Shared} {Q : Value → Shared → Prop} {E : Value → Shared → Prop} : ∀ {op : CmpOp}, isOrd op = true → Q (.bool (cmpI op i j)) s → wpAny (md B) A (compareOp op (.int i t) (.int j u)) Q E s
  | .Eq, _, h => eq_int h
  | .NotEq, _, h => ne_int h
  | .Lt, _, h => lt_int h
  | .LtE, _, h => le_int h
  | .Gt, _, h => gt_int h
  | .GtE, _, h => ge_int h
  | .Is, ho, _ | .IsNot, ho, _ | .In, ho, _ | .NotIn, ho, _ => nomatch ho
theorem Ev.icmp {l r : Expr} {op : CmpOp} {pos : Pos} {i j : Int} (hl : Ev C ρ μ l (pint i)) (hr : Ev C ρ μ r (pint j)) (ho : isOrd op = true := by rfl)
    (hm : behindInMarks op r = false := by with_unfolding_all rfl) : Ev C ρ μ (.Compare l [op] [r] pos) (pbool (cmpI op i j)) :=
  Ev.cmp hl hr (fun F s a b _ ha hb => by obtain ⟨t, rfl⟩ := int_of ha; obtain ⟨u, rfl⟩ := int_of hb; exact cmp_ints ho ⟨.refl, of_bool⟩) hm
theorem Ev.seq {l r : Expr} {pos : Pos} {i j : Str} (hl : Ev C ρ μ l (pstr i)) (hr : Ev C ρ μ r (pstr j)) (hm : behindInMarks .Eq r = false := by with_unfolding_all rfl) : Ev C ρ μ (.Compare l [.Eq] [r] pos) (pbool (i == j)) :=
  Ev.cmp hl hr (fun F s a b _ ha hb => by obtain ⟨t, rfl⟩ := str_of ha; obtain ⟨u, rfl⟩ := str_of hb; exact eq_str ⟨.refl, of_bool⟩) hm
theorem Ev.sne {l r : Expr} {pos : Pos} {i j : Str} (hl : Ev C ρ μ l (pstr i)) (hr : Ev C ρ μ r (pstr j)) (hm : behindInMarks .NotEq r = false := by with_unfolding_all rfl) : Ev C ρ μ (.Compare l [.NotEq] [r] pos) (pbool (i != j)) :=
  Ev.cmp hl hr (fun F s a b _ ha hb => by obtain ⟨t, rfl⟩ := str_of ha; obtain ⟨u, rfl⟩ := str_of hb; exact ne_str ⟨.refl, of_bool⟩) hm
/-- tests -/
theorem truthy_b {M : Model} {A : Around} {b : Bool} {s : Shared} {Q : Bool → Shared → Prop} {E : Value → Shared → Prop} (h : Q b s) : wpAny M A (truthy (.bool b)) Q E s := wpAny_truthy_bool h
theorem EvT.cmp {l r : Expr} {op : CmpOp} {pos : Pos} {b : Bool} (h : Ev C ρ μ (.Compare l [op] [r] pos) (pbool b)) : EvT C ρ μ (.Compare l [op] [r] pos) b := by
  intro F s f
  have key : isTrue (.Compare l [op] [r] pos) C.env (eval (.Compare l [op] [r] pos) C.env) = (do let v ← eval (.Compare l [op] [r] pos) C.env; holding [v] (truthy v)) := by
    rw [isTrue_Compare1, eval_Compare1]; simp only [bind_assoc]
  rw [key]
  exact wpAny_bind (wpMono (h F s f) fun v s₁ ⟨p₁, h₁⟩ => wpAny_holding (by rw [bool_of h₁]; exact truthy_b ⟨p₁, rfl⟩))
theorem EvT.not {e : Expr} {pos : Pos} {b : Bool} (h : EvT C ρ μ e b) : EvT C ρ μ (.UnaryOp .Not e pos) (!b) := fun F s f =>
  wpAny_isTrue_Not (wpMono (h F s f) fun v s₁ ⟨p₁, h₁⟩ => ⟨p₁, by rw [h₁]⟩)
/-- a plain expression as a test, by its value's truth -/
theorem EvT.val {e : Expr} {b : Bool} {P : Pd B} (h : Ev C ρ μ e P) (ht : ∀ F s v, Frm C F s.heap ρ μ → P.p F s.heap v → wpAny (md B) C.A (truthy v) (fun v s' => Stp B s s' ∧ v = b) noE s)
    (he : isTrue e C.env (eval e C.env) = (do let v ← eval e C.env; standAt e.pos; holding [v] (truthy v)) := by rfl) : EvT C ρ μ e b := fun F s f =>
  wpAny_isTrue_value (wpMono (h F s f) fun v s₁ ⟨p₁, h₁⟩ => wpMono (ht F s₁ v (f.step p₁.p) h₁) fun _ s₂ ⟨p₂, h₂⟩ => ⟨p₁.trans p₂, h₂⟩) he
theorem EvT.bool {e : Expr} {b : Bool} (h : Ev C ρ μ e (pbool b)) (he : isTrue e C.env (eval e C.env) = (do let v ← eval e C.env; standAt e.pos; holding [v] (truthy v)) := by rfl) : EvT C ρ μ e b :=
  .val h (fun F s v _ h => by rw [bool_of h]; exact truthy_b ⟨.refl, rfl⟩) he
noncomputable def EvA {B : Bs} (C : Cx B) (ρ : Rho B) (μ : Mu B) (op : BoolOp) (es : List Expr) (b : Bool) : Prop :=
  ∀ F s, Frm C F s.heap ρ μ → wpAny (md B) C.A (allTrue op es C.env) (fun v s' => Stp B s s' ∧ v = b) noE s
theorem EvT.boolop {op : BoolOp} {es : List Expr} {pos : Pos} {b : Bool} (h : EvA C ρ μ op es b) : EvT C ρ μ (.BoolOp op es pos) b := fun F s f => wpAny_isTrue_BoolOp (h F s f)
theorem EvA.and_nil : EvA C ρ μ .And [] true := fun _ _ _ => wpAny_allTrue_And_nil ⟨.refl, rfl⟩
theorem EvA.or_nil : EvA C ρ μ .Or [] false := fun _ _ _ => wpAny_allTrue_Or_nil ⟨.refl, rfl⟩
theorem EvA.and_no {e : Expr} {es : List Expr} (h : EvT C ρ μ e false) : EvA C ρ μ .And (e :: es) false := fun F s f => wpAny_allTrue_And_cons (wpMono (h F s f) fun v s₁ ⟨p₁, h₁⟩ => by subst h₁; simpa using p₁)
theorem EvA.and_yes {e : Expr} {es : List Expr} {b : Bool} (h : EvT C ρ μ e true) (h' : EvA C ρ μ .And es b) : EvA C ρ μ .And (e :: es) b := fun F s f =>
  wpAny_allTrue_And_cons (wpMono (h F s f) fun v s₁ ⟨p₁, h₁⟩ => by subst h₁; exact wpMono (h' F s₁ (f.step p₁.p)) fun v s₂ ⟨p₂, h₂⟩ => ⟨p₁.trans p₂, h₂⟩)
theorem EvA.or_yes {e : Expr} {es : List Expr} (h : EvT C ρ μ e true) : EvA C ρ μ .Or (e :: es) true := fun F s f => wpAny_allTrue_Or_cons (wpMono (h F s f) fun v s₁ ⟨p₁, h₁⟩ => by subst h₁; simpa using p₁)
theorem EvA.or_no {e : Expr} {es : List Expr} {b : Bool} (h : EvT C ρ μ e false) (h' : EvA C ρ μ .Or es b) : EvA C ρ μ .Or (e :: es) b := fun F s f =>
  wpAny_allTrue_Or_cons (wpMono (h F s f) fun v s₁ ⟨p₁, h₁⟩ => by subst h₁; exact wpMono (h' F s₁ (f.step p₁.p)) fun v s₂ ⟨p₂, h₂⟩ => ⟨p₁.trans p₂, h₂⟩)
theorem Ev.ite {t a b : Expr} {pos : Pos} {c : Bool} {P : Pd B} (ht : EvT C ρ μ t c) (ha : c = true → Ev C ρ μ a P) (hb : c = false → Ev C ρ μ b P) : Ev C ρ μ (.IfExp t a b pos) P := fun F s f =>
  wpAny_IfExp (wpMono (ht F s f) fun v s₁ ⟨p₁, h₁⟩ => by
    subst h₁
    cases v with
    | true => exact wpMono (ha rfl F s₁ (f.step p₁.p)) fun v s₂ ⟨p₂, h₂⟩ => ⟨p₁.trans p₂, h₂⟩
    | false => exact wpMono (hb rfl F s₁ (f.step p₁.p)) fun v s₂ ⟨p₂, h₂⟩ => ⟨p₁.trans p₂, h₂⟩)
end Mine
open PySem PySem.W PyProof.Rows
set_option Elab.async false
set_option maxRecDepth 100000
set_option linter.unusedVariables false
namespace Mine
variable {B : Bs} {C : Cx B} {ρ : Rho B} {μ : Mu B}
noncomputable def upd (ρ : Rho B) (x : Str) (P : Pd B) : Rho B := fun y => if y = x then some P else ρ y
noncomputable def updM (μ : Mu B) (a : Addr) (Ps : List (Pd B)) : Mu B := fun y => if y = a then some Ps else μ y
theorem ns_ne_cell {h : Heap} {L c : Addr} {m : Str → Option Value} {v : Option Value} (a : h.Ns L m) (b : h.IsCell c v) : c ≠ L := by
  rintro rfl; obtain ⟨o, _, _, e, hd, _⟩ := a; obtain ⟨o', e', hd'⟩ := b; rw [e] at e'; cases e'; rw [hd] at hd'; cases hd'
theorem ns_ne_seq {h : Heap} {L c : Addr} {m : Str → Option Value} {T : String} {vs : List Value} (a : h.Ns L m) (b : IsSeq h T c vs) : c ≠ L := by
  rintro rfl; obtain ⟨o, _, _, e, hd, _⟩ := a; obtain ⟨n, e'⟩ := b; rw [e] at e'; cases e'; cases hd
theorem cell_ne_seq {h : Heap} {L c : Addr} {v : Option Value} {T : String} {vs : List Value} (a : h.IsCell L v) (b : IsSeq h T c vs) : c ≠ L := by
  rintro rfl; obtain ⟨o, e, hd⟩ := a; obtain ⟨n, e'⟩ := b; rw [e] at e'; cases e'; cases hd
theorem IsSeq.sameBut {h h' : Heap} {T : String} {a b : Addr} {vs : List Value} (x : IsSeq h T b vs) (hs : Heap.SameBut a h h') (hb : b ≠ a) : IsSeq h' T b vs := let ⟨n, e⟩ := x; ⟨n, (hs.2 b hb).trans e⟩
theorem cell_sameBut {h h' : Heap} {a b : Addr} {v : Option Value} (x : h.IsCell b v) (hs : Heap.SameBut a h h') (hb : b ≠ a) : h'.IsCell b v := let ⟨n, e, d⟩ := x; ⟨n, (hs.2 b hb).trans e, d⟩
theorem Frm.presL {F : Addr → Prop} {h h' : Heap} (f : Frm C F h ρ μ) {a : Addr} {o : Obj} (hs : Heap.SameBut a h h') (e : h.get? a = some o) (hp : plainObj o) (hF : F a) (h0 : C.h₀.get? a = none) : Pres B F h h' ∧ Pres B none' C.h₀ h' :=
  ⟨.sameBut hs e hp hF, f.pres.then (.sameBut (F := fun b => b = a) hs e hp rfl) fun b q => by rw [q]; exact h0⟩
theorem st_local {A : Around} {F : Addr → Prop} {s : Shared} {x : Str} {v : Value} {P : Pd B} (f : Frm C F s.heap ρ μ) (hv : P.p F s.heap v) (hk : C.env.kindOf x = some .local) :
    wpAny (md B) A (storeName C.env x v) (fun _ s' => Rest s s' ∧ Frm C F s'.heap (upd ρ x P) μ ∧ Pres B (Mut C μ) s.heap s'.heap) noE s := by
  obtain ⟨m, hn, hm⟩ := f.loc
  refine wpAny_storeName_local hk hn (fun h' hn' hs => ⟨⟨rfl, rfl, rfl⟩, ?_, ?_⟩) (by rw [f.kind]; rfl); rotate_left; exact (let ⟨_, _, _, e, hd, _⟩ := id hn; Pres.sameBut hs e (plain_dict hd) (.inl rfl))
  obtain ⟨o, es, ep, e, hd, _⟩ := id hn
  obtain ⟨pF, p0⟩ := f.presL hs e (plain_dict hd) f.fl f.fresh
  refine { base := f.base, pres := p0, kind := f.kind, glob := f.glob, blt := f.blt, fl := f.fl, lt := fun b q => Nat.lt_of_lt_of_le (f.lt b q) (Nat.le_of_eq hs.1.symm), fresh := f.fresh, stk := f.stk, loc := ⟨_, hn', ?_⟩, cel := ?_, kinds := ?_, own := ?_, inj := f.inj, lst := ?_ }
  · intro y Q hq hy
    unfold upd at hq
    by_cases hyx : y = x
    · rw [if_pos hyx] at hq; cases hq; exact ⟨v, if_pos hyx, P.mono hv pF⟩
    · rw [if_neg hyx] at hq
      obtain ⟨u, hu, hp⟩ := hm y Q hq hy
      exact ⟨u, by rw [if_neg hyx]; exact hu, Q.mono hp pF⟩
  · intro y Q hq hy
    unfold upd at hq
    by_cases hyx : y = x
    · subst hyx; rw [hk] at hy; rcases hy with hy | hy <;> cases hy
    · rw [if_neg hyx] at hq
      obtain ⟨c, u, hl, hc, hp⟩ := f.cel y Q hq hy
      exact ⟨c, u, hl, cell_sameBut hc hs (ns_ne_cell hn hc), Q.mono hp pF⟩
  · intro y Q hq
    unfold upd at hq
    by_cases hyx : y = x
    · subst hyx; exact .inl hk
    · rw [if_neg hyx] at hq; exact f.kinds y Q hq
  · intro y hq hy
    obtain ⟨c, u, hl, hF, h0, hc⟩ := f.own y hq hy
    exact ⟨c, u, hl, hF, h0, cell_sameBut hc hs (ns_ne_cell hn hc)⟩
  · intro a Ps q
    obtain ⟨hF, h0, vs, hz, hp⟩ := f.lst a Ps q
    exact ⟨hF, h0, vs, hz.sameBut hs (ns_ne_seq hn hz), hp.mono pF⟩
theorem st_cell {A : Around} {F : Addr → Prop} {s : Shared} {x : Str} {v : Value} {P : Pd B} (f : Frm C F s.heap ρ μ) (hv : P.p F s.heap v) (hk : C.env.kindOf x = some .cell) (hst : C.stor x = true) :
    wpAny (md B) A (storeName C.env x v) (fun _ s' => Rest s s' ∧ Frm C F s'.heap (upd ρ x P) μ ∧ Pres B (Mut C μ) s.heap s'.heap) noE s := by
  obtain ⟨m, hn, hm⟩ := f.loc
  obtain ⟨c, v₀, hl, hFc, h0c, hc⟩ := f.own x hst hk
  refine wpAny_storeName_cell f.kind hk hl hc (fun h' hc' hs => ⟨⟨rfl, rfl, rfl⟩, ?_, ?_⟩); rotate_left; exact (let ⟨_, e, hd⟩ := id hc; Pres.sameBut hs e (plain_cell hd) (.inr (.inl ⟨x, hst, hk, hl⟩)))
  obtain ⟨o, e, hd⟩ := id hc
  obtain ⟨pF, p0⟩ := f.presL hs e (plain_cell hd) hFc (Heap.get?_none_of_le h0c)
  have hLc : C.env.locals ≠ c := (ns_ne_cell hn hc).symm
  refine { base := f.base, pres := p0, kind := f.kind, glob := f.glob, blt := f.blt, fl := f.fl, lt := fun b q => Nat.lt_of_lt_of_le (f.lt b q) (Nat.le_of_eq hs.1.symm), fresh := f.fresh, stk := f.stk, loc := ⟨m, hn.sameBut hs hLc, ?_⟩, cel := ?_, kinds := ?_, own := ?_, inj := f.inj, lst := ?_ }
  · intro y Q hq hy
    unfold upd at hq
    by_cases hyx : y = x
    · subst hyx; rw [hk] at hy; cases hy
    · rw [if_neg hyx] at hq
      obtain ⟨u, hu, hp⟩ := hm y Q hq hy
      exact ⟨u, hu, Q.mono hp pF⟩
  · intro y Q hq hy
    unfold upd at hq
    by_cases hyx : y = x
    · rw [if_pos hyx] at hq; cases hq; subst hyx; exact ⟨c, v, hl, hc', P.mono hv pF⟩
    · rw [if_neg hyx] at hq
      obtain ⟨c', u, hl', hc₂, hp⟩ := f.cel y Q hq hy
      have hcc : c' ≠ c := fun q => hyx (f.inj y x c (q ▸ hl') hl)
      exact ⟨c', u, hl', cell_sameBut hc₂ hs hcc, Q.mono hp pF⟩
  · intro y Q hq
    unfold upd at hq
    by_cases hyx : y = x
    · subst hyx; exact .inr (.inl hk)
    · rw [if_neg hyx] at hq; exact f.kinds y Q hq
  · intro y hq hy
    obtain ⟨c', u, hl', hF, h0, hc₂⟩ := f.own y hq hy
    by_cases hyx : y = x
    · subst hyx; rw [hl] at hl'; cases hl'; exact ⟨c, some v, hl, hF, h0, hc'⟩
    · have hcc : c' ≠ c := fun q => hyx (f.inj y x c (q ▸ hl') hl)
      exact ⟨c', u, hl', hF, h0, cell_sameBut hc₂ hs hcc⟩
  · intro a Ps q
    obtain ⟨hF, h0, vs, hz, hp⟩ := f.lst a Ps q
    exact ⟨hF, h0, vs, hz.sameBut hs (cell_ne_seq hc hz), hp.mono pF⟩
/-- a name that may be stored -/
noncomputable def Sto (C : Cx B) (x : Str) : Prop := C.env.kindOf x = some .local ∨ (C.env.kindOf x = some .cell ∧ C.stor x = true)
theorem st_any {A : Around} {F : Addr → Prop} {s : Shared} {x : Str} {v : Value} {P : Pd B} (f : Frm C F s.heap ρ μ) (hv : P.p F s.heap v) (hk : Sto C x) :
    wpAny (md B) A (storeName C.env x v) (fun _ s' => Rest s s' ∧ Frm C F s'.heap (upd ρ x P) μ ∧ Pres B (Mut C μ) s.heap s'.heap) noE s :=
  hk.elim (fun k => st_local f hv k) fun k => st_cell f hv k.1 k.2
/-- a step, then the same frame -/
theorem Nxt.same {F : Addr → Prop} {h h' : Heap} {ρ' : Rho B} (f : Frm C F h' ρ' μ) : Nxt C F μ h ρ' μ h' F := ⟨fun _ q => q, fun _ q => .inl q, f, fun _ q => .inl q⟩
theorem OutOk.before {F : Addr → Prop} {h h₁ h₂ : Heap} {o : Out B} {fl : Flow} (f : Frm C F h₁ ρ μ) (p : Pres B none' h h₁) (x : OutOk C F μ h₁ o fl h₂) : OutOk C F μ h o fl h₂ := Nxt.out p.any (.same f) x
theorem Ex.nil : Ex C ρ μ [] (.next ρ μ) := fun F s f => wpAny_execs_nil ⟨.refl, .refl, F, .same f⟩
theorem Ex.cons {st : Stmt} {rest : List Stmt} {ρ' : Rho B} {μ' : Mu B} {o : Out B} (h : Ex1 C ρ μ st (.next ρ' μ')) (h' : Ex C ρ' μ' rest o) : Ex C ρ μ (st :: rest) o := fun F s f =>
  wpAny_execs_cons (wpMono (h F s f) fun fl s₁ ⟨r₁, p₁, h₁⟩ => by
    cases fl with
    | next => obtain ⟨F', n⟩ := h₁; exact wpMono (h' F' s₁ n.frm) fun _ s₂ ⟨r₂, h₂⟩ => ⟨r₁.trans r₂, n.out p₁ h₂⟩
    | brk => exact h₁.elim
    | cont => exact h₁.elim
    | ret v => exact h₁.elim)
noncomputable def Out.leaves : Out B → Bool
  | .next .. => false
  | _ => true
theorem Ex.leave {st : Stmt} {rest : List Stmt} {o : Out B} (h : Ex1 C ρ μ st o) (ho : o.leaves = true := by rfl) : Ex C ρ μ (st :: rest) o := fun F s f =>
  wpAny_execs_cons (wpMono (h F s f) fun fl s₁ h₁ => by
    cases o with
    | next ρ μ => cases ho
    | brk ρ μ => cases fl <;> first | exact h₁.2.2.elim | exact h₁
    | cont ρ μ => cases fl <;> first | exact h₁.2.2.elim | exact h₁
    | ret P => cases fl <;> first | exact h₁.2.2.elim | exact h₁)
theorem Ex1.assign {x : Str} {pos' pos : Pos} {e : Expr} {P : Pd B} (h : Ev C ρ μ e P) (hk : Sto C x)
    (hs : swapsWith e (some (.Name x pos')) pos.line C.env = pure false := by rfl) : Ex1 C ρ μ (.Assign [.Name x pos'] e pos) (.next (upd ρ x P) μ) := fun F s f =>
  wpAny_Assign_Name (wpMono (h F s f) fun v s₁ ⟨p₁, h₁⟩ => wpMono (st_any (f.step p₁.p) h₁ hk) fun _ s₂ ⟨r₂, h₂, p₂⟩ => ⟨p₁.r.trans r₂, p₁.p.any.trans p₂, F, .same h₂⟩) hs
theorem Ex1.ite {t : Expr} {a b : List Stmt} {pos : Pos} {c : Bool} {o : Out B} (ht : EvT C ρ μ t c) (ha : c = true → Ex C ρ μ a o) (hb : c = false → Ex C ρ μ b o) : Ex1 C ρ μ (.If t a b pos) o := fun F s f =>
  wpAny_If (wpMono (ht F s f) fun v s₁ ⟨p₁, h₁⟩ => by
    subst h₁
    cases v with
    | true => exact wpMono (ha rfl F s₁ (f.step p₁.p)) fun v s₂ ⟨r₂, h₂⟩ => ⟨p₁.r.trans r₂, h₂.before (f.step p₁.p) p₁.p⟩
    | false => exact wpMono (hb rfl F s₁ (f.step p₁.p)) fun v s₂ ⟨r₂, h₂⟩ => ⟨p₁.r.trans r₂, h₂.before (f.step p₁.p) p₁.p⟩)
theorem Ex1.ret {e : Expr} {pos : Pos} {P : Pd B} (h : Ev C ρ μ e P) : Ex1 C ρ μ (.Return (some e) pos) (.ret P) := fun F s f =>
  wpAny_Return_some (wpMono (h F s f) fun v s₁ ⟨p₁, h₁⟩ => ⟨p₁.r, p₁.p.any, f.pres.trans p₁.p, P.weak h₁ fun b q => .inl q.1⟩)
theorem Ex1.brk {pos : Pos} : Ex1 C ρ μ (.Break pos) (.brk ρ μ) := fun F s f => wpAny_Break ⟨.refl, .refl, F, .same f⟩
/-- while, turn by turn -/
noncomputable def Wh {B : Bs} (C : Cx B) (ρ : Rho B) (μ : Mu B) (test : Expr) (body : List Stmt) (o : Out B) : Prop :=
  ∀ F s, Frm C F s.heap ρ μ → codeAny (md B) C.A (.whileLoop test body [] C.env) (fun r s' => match r with | .ok f => Rest s s' ∧ OutOk C F μ s.heap o f s'.heap | .error _ => False) s
theorem while_turn {test : Expr} {body : List Stmt} {env : Env} {A : Around} {R : Result → Shared → Prop} {s : Shared}
    (h : wpAny (md B) A (isTrue test env (eval test env)) (fun b s₂ =>
        if b then wpAny (md B) A (execs body env) (fun f s₃ => match f with
            | .next | .cont => codeAny (md B) A (.whileLoop test body [] env) R s₃
            | .brk => R (.ok .next) s₃
            | .ret v => R (.ok (.ret v)) s₃) noE s₂
        else R (.ok .next) s₂) noE s) : codeAny (md B) A (.whileLoop test body [] env) R s := by
  refine codeAny_of_tree ?_
  show wpAny _ A ((whileTurn test body [] env).onRaise (fun x => do noteFrame x env; theTreesLotGoes x)) _ _ s
  refine wpAny_onRaise (wpAny_mono (E := noE) (Q := fun fin s' => match fin with | .done f => R (.ok f) s' | .again c' => c'.quiet = true ∧ codeAny (md B) A c' R s') ?_ (fun _ _ x => x) fun _ _ x => x.elim)
  simp only [whileTurn]
  refine wpAny_bind (wpMono h fun b s₂ h₂ => ?_)
  cases b with
  | false => exact wpAny_bind (wpAny_pure (wpAny_pure h₂))
  | true =>
    simp only [if_true] at h₂ ⊢
    refine wpAny_bind (wpMono h₂ fun f s₃ h₃ => ?_)
    cases f with
    | next => exact wpAny_pure ⟨rfl, h₃⟩
    | cont => exact wpAny_pure ⟨rfl, h₃⟩
    | brk => exact wpAny_pure h₃
    | ret v => exact wpAny_pure h₃
theorem Wh.stop {test : Expr} {body : List Stmt} (ht : EvT C ρ μ test false) : Wh C ρ μ test body (.next ρ μ) := fun F s f =>
  while_turn (wpMono (ht F s f) fun b s₂ ⟨p, hb⟩ => by subst hb; exact ⟨p.r, p.p.any, F, .same (f.step p.p)⟩)
theorem Wh.turn {test : Expr} {body : List Stmt} {ρ' : Rho B} {μ' : Mu B} {o : Out B} (ht : EvT C ρ μ test true) (hb : Ex C ρ μ body (.next ρ' μ')) (hw : Wh C ρ' μ' test body o) : Wh C ρ μ test body o := fun F s f =>
  while_turn (wpMono (ht F s f) fun b s₂ ⟨p, hb'⟩ => by
    subst hb'
    refine wpMono (hb F s₂ (f.step p.p)) fun fl s₃ ⟨r₃, h₃'⟩ => ?_
    obtain ⟨p₃, h₃⟩ := h₃'.before (f.step p.p) p.p
    cases fl with
    | next => obtain ⟨F', n⟩ := h₃; exact codeAny_mono (hw F' s₃ n.frm) fun r s' h => by cases r with | ok fl => exact ⟨(p.r.trans r₃).trans h.1, n.out p₃ h.2⟩ | error e => exact h
    | brk => exact h₃.elim
    | cont => exact h₃.elim
    | ret v => exact h₃.elim)
theorem Wh.brk {test : Expr} {body : List Stmt} {ρ' : Rho B} {μ' : Mu B} (ht : EvT C ρ μ test true) (hb : Ex C ρ μ body (.brk ρ' μ')) : Wh C ρ μ test body (.next ρ' μ') := fun F s f =>
  while_turn (wpMono (ht F s f) fun b s₂ ⟨p, hb'⟩ => by
    subst hb'
    refine wpMono (hb F s₂ (f.step p.p)) fun fl s₃ ⟨r₃, h₃'⟩ => ?_
    obtain ⟨p₃, h₃⟩ := h₃'.before (f.step p.p) p.p
    cases fl with
    | brk => exact ⟨p.r.trans r₃, p₃, h₃⟩
    | next => exact h₃.elim
    | cont => exact h₃.elim
    | ret v => exact h₃.elim)
theorem Wh.ret {test : Expr} {body : List Stmt} {P : Pd B} (ht : EvT C ρ μ test true) (hb : Ex C ρ μ body (.ret P)) : Wh C ρ μ test body (.ret P) := fun F s f =>
  while_turn (wpMono (ht F s f) fun b s₂ ⟨p, hb'⟩ => by
    subst hb'
    refine wpMono (hb F s₂ (f.step p.p)) fun fl s₃ ⟨r₃, h₃'⟩ => ?_
    obtain ⟨p₃, h₃⟩ := h₃'.before (f.step p.p) p.p
    cases fl with
    | ret v => exact ⟨p.r.trans r₃, p₃, h₃⟩
    | next => exact h₃.elim
    | cont => exact h₃.elim
    | brk => exact h₃.elim)
theorem Ex1.while {test : Expr} {body : List Stmt} {pos : Pos} {o : Out B} (h : Wh C ρ μ test body o) : Ex1 C ρ μ (.While test body [] pos) o := fun F s f =>
  wpAny_While (codeAny_mono (h F s f) fun r s' h => by cases r with | ok fl => exact h | error e => exact h.elim)
end Mine
open PySem PySem.W PyProof.Rows
set_option Elab.async false
set_option maxRecDepth 100000
set_option linter.unusedVariables false
set_option linter.unusedSimpArgs false
namespace Mine
variable {B : Bs} {C : Cx B} {ρ : Rho B} {μ : Mu B}
/-- there is room for n more calls, one in the other -/
structure Room (n : Nat) (A : Around) : Prop where
  depth : A.depth + n ≤ 900
  units : A.units + 10 * n ≤ 9000
  guards : A.guards = some []
  frames : ∃ l, A.frames = some l
theorem Room.le {n m : Nat} {A : Around} (r : Room n A) (h : m ≤ n) : Room m A := ⟨by have := r.depth; omega, by have := r.units; omega, r.guards, r.frames⟩
theorem Room.deeper {n : Nat} {A : Around} {env : Env} (r : Room (n + 1) A) : Room n (A.deeper env) :=
  ⟨by have := r.depth; show A.depth + 1 + n ≤ 900; omega, by have := r.units; show A.units + 3 + 10 * n ≤ 9000; omega, r.guards, let ⟨l, e⟩ := r.frames; ⟨env :: l, by show A.frames.map _ = _; rw [e]; rfl⟩⟩
/-- a value that may be called: a built-in, a class, a def of the text -/
noncomputable def Kept (B : Bs) : Value → Prop
  | .builtin _ => True
  | .type _ => True
  | .ref a => ∀ h, Base B h → ∃ o fd, h.get? a = some o ∧ o.data = .func fd
  | _ => False
structure Fn (B : Bs) (n : Nat) (v : Value) (Ps : List (Pd B)) (P : Pd B) (H : Option Value → Prop := fun x => x = Option.none) : Prop where
  kept : Kept B v
  call : ∀ F A s vs, Room n A → H A.handled → Stk B A s.heap → Base B s.heap → (∀ b, F b → b < s.heap.objs.size) → all2 F s.heap Ps vs → wpAny (md B) A (PySem.call v vs []) (fun r s' => Stp B s s' ∧ P.p F s'.heap r) noE s
theorem EvL.nil : EvL C ρ μ [] [] := fun F s pos f => by
  show wpAny _ _ (spliced []) _ _ _
  exact wpAny_pure ⟨.refl, trivial⟩
theorem EvL.cons {e : Expr} {es : List Expr} {P : Pd B} {Ps : List (Pd B)} (h : Ev C ρ μ e P) (h' : EvL C ρ μ es Ps) (hs : starEach (e :: es) C.env = (false, eval e C.env) :: starEach es C.env := by rfl) : EvL C ρ μ (e :: es) (P :: Ps) := fun F s pos f => by
  rw [hs]
  show wpAny (md B) C.A (do let v ← eval e C.env; let here ← (pure [v] : Sem (List Value)); return here ++ (← holding here (spliced (backTo pos (starEach es C.env))))) _ _ s
  refine wpAny_bind (wpMono (h F s f) fun v s₁ ⟨p₁, h₁⟩ => wpAny_bind (wpAny_pure (wpAny_bind (wpAny_holding (wpMono (h' F s₁ pos (f.step p₁.p)) fun vs s₂ ⟨p₂, h₂⟩ => wpAny_pure ⟨p₁.trans p₂, P.mono h₁ p₂.p.any, h₂⟩)))))
theorem evalArgs_any {M : Model} {A : Around} {f : Value} {args : List (Bool × Sem Value)} {Q : Args → Shared → Prop} {E : Value → Shared → Prop} {s : Shared} (hp : args.any (·.1) = false)
    (h : wpAny M A (spliced args) (fun vs s' => Q ⟨vs, []⟩ s') E s) : wpAny M A (evalArgs f true args []) Q E s := by
  cases args with
  | nil =>
    intro Γ p hΓ
    exact evalArgs_nil3 (h Γ p hΓ) Γ p hΓ
  | cons x rest =>
    obtain ⟨b, x⟩ := x
    simp only [List.any_cons, Bool.or_eq_false_iff] at hp
    obtain rfl : b = false := hp.1
    exact PySem.Calls.evalArgs_plain h
/-- a callee, its arguments read, then the call -/
theorem callWith_any {A : Around} {pos : Pos} {v : Value} {first : List Value} {args : List (Bool × Sem Value)} {Q : Value → Shared → Prop} {E : Value → Shared → Prop} {s : Shared} (hk : Kept B v) (hp : args.any (·.1) = false)
    (h : wpAny (md B) A (spliced args) (fun vs s₁ => Base B s₁.heap ∧ wpAny (md B) A (PySem.call v (first ++ vs) []) Q E s₁) E s) : wpAny (md B) A (callWith pos v first args []) Q E s := by
  cases v with
  | builtin id => exact PySem.Calls.callWith_builtin hp (evalArgs_any hp (wpAny_mono h (fun _ _ x => x.2) fun _ _ x => x))
  | type T => exact PyProof.Rows.callWith_type hp (evalArgs_any hp (wpAny_mono h (fun _ _ x => x.2) fun _ _ x => x))
  | ref a =>
    unfold callWith
    refine wpAny_bind (wpAny_holding (evalArgs_any hp (wpAny_mono h (fun vs s₁ h₁ => wpAny_bind (wpAny_standAt ?_)) fun _ _ x => x)))
    obtain ⟨o, fd, ho, hd⟩ := hk _ h₁.1
    have tail : ∀ {t : Sem Value}, wpAny (md B) A t Q E s₁ → wpAny (md B) A (t >>= fun r => holding [r] point >>= fun _ => pure r) Q E s₁ :=
      fun ht => wpAny_bind (wpAny_mono ht (fun r s₂ hr => wpAny_bind (wpAny_holding (wpAny_point (wpAny_pure hr)))) fun _ _ x => x)
    simp only [hp, List.any_nil, Bool.or_false]
    refine wpAny_bind (m := keeperOf (.ref a)) ?_
    unfold keeperOf
    refine wpAny_bind (wpAny_load ho ?_)
    rw [hd]
    refine wpAny_pure ?_
    dsimp only
    split
    · exact tail h₁.2
    · exact tail (by unfold callMarked; exact PySem.Calls.wpAny_keep h₁.2)
  | _ => exact hk.elim
theorem Ev.call {x : Str} {np pos : Pos} {args : List Expr} {v : Value} {Ps : List (Pd B)} {P : Pd B} {n : Nat} {H : Option Value → Prop} (hf : Ev C ρ μ (.Name x np) (pv v)) (ha : EvL C ρ μ args Ps) (hn : Fn B n v Ps P H) (hr : Room n C.A) (hh : H C.A.handled)
    (hp : (backTo pos (starEach args C.env)).any (·.1) = false := by rfl) : Ev C ρ μ (.Call (.Name x np) args [] pos) P := fun F s f =>
  wpAny_Call_NameR (wpMono (hf F s f) fun g s₁ ⟨p₁, h₁⟩ => by
    obtain rfl : g = v := h₁
    refine callWith_any hn.kept hp (wpMono (ha F s₁ pos (f.step p₁.p)) fun vs s₂ ⟨p₂, h₂⟩ => ?_)
    have f₂ := (f.step p₁.p).step p₂.p
    exact ⟨f₂.h, wpMono (hn.call F C.A s₂ vs hr hh f₂.stack f₂.h f₂.lt h₂) fun r s₃ ⟨p₃, h₃⟩ => ⟨(p₁.trans p₂).trans p₃, h₃⟩⟩)
/-- names and what is said of them -/
noncomputable def updL (ρ : Rho B) : List Str → List (Pd B) → Rho B
  | x :: xs, P :: Ps => updL (upd ρ x P) xs Ps
  | _, _ => ρ
theorem binds_loop {A : Around} {F : Addr → Prop} : ∀ (xs : List Str) (vs : List Value) (Ps : List (Pd B)) (ρ : Rho B) (s : Shared), xs.length = vs.length → Frm C F s.heap ρ μ → all2 F s.heap Ps vs → (∀ x ∈ xs, Sto C x) →
    wpAny (md B) A (forIn (xs.zip vs) PUnit.unit fun x _ => do storeName C.env x.1 x.2; pure (.yield PUnit.unit)) (fun _ s' => Rest s s' ∧ Frm C F s'.heap (updL ρ xs Ps) μ) noE s
  | [], [], [], ρ, s, _, f, _, _ => by exact wpAny_pure ⟨.refl, f⟩
  | x :: xs, v :: vs, P :: Ps, ρ, s, hl, f, hv, hs => by
    rw [List.zip_cons_cons, List.forIn_cons]
    refine wpAny_bind (wpAny_bind (wpMono (st_any f hv.1 (hs x List.mem_cons_self)) fun _ s₁ ⟨r₁, f₁, p₁⟩ => wpAny_pure ?_))
    exact wpMono (binds_loop xs vs Ps _ s₁ (Nat.succ.inj hl) f₁ (hv.2.mono (p₁.weak fun b q => f.mutF q)) fun y hy => hs y (List.mem_cons_of_mem _ hy)) fun _ s₂ ⟨r₂, f₂⟩ => ⟨r₁.trans r₂, f₂⟩
  | [], [], _ :: _, _, _, _, _, hv, _ => hv.elim
  | _ :: _, _ :: _, [], _, _, _, _, hv, _ => hv.elim
  | [], _ :: _, _, _, _, hl, _, _, _ => by simp at hl
  | _ :: _, [], _, _, _, hl, _, _, _ => by simp at hl
theorem lookup_cellsFrom : ∀ (names : List (Str × NameKind)) (n : Nat) (acc : List (Str × Addr)) (x : Str), names.lookup x = some .cell → ∃ c, (cellsFrom n names acc).lookup x = some c ∧ n ≤ c := by
  have mono : ∀ (names : List (Str × NameKind)) (n : Nat) (acc : List (Str × Addr)) (x : Str) (c : Addr) (m : Nat), m ≤ n → acc.lookup x = some c → m ≤ c → ∃ c', (cellsFrom n names acc).lookup x = some c' ∧ m ≤ c' := by
    intro names
    induction names with
    | nil => intro n acc x c m hm hl hc; exact ⟨c, hl, hc⟩
    | cons y r ih =>
      intro n acc x c m hm hl hc
      obtain ⟨y, k⟩ := y
      unfold cellsFrom
      split
      · by_cases hxy : x = y
        · subst hxy; exact ih (n + 1) _ x n m (by omega) (by simp [List.lookup_cons]) hm
        · exact ih (n + 1) _ x c m (by omega) (by rw [List.lookup_cons, show (x == y) = false from by simpa using hxy]; exact hl) hc
      · exact ih n acc x c m hm hl hc
  intro names
  induction names with
  | nil => intro n acc x h; cases h
  | cons y r ih =>
    intro n acc x h
    obtain ⟨y, k⟩ := y
    rw [List.lookup_cons] at h
    unfold cellsFrom
    by_cases hxy : x = y
    · subst hxy
      simp only [beq_self_eq_true] at h
      cases h
      rw [if_pos (by rfl)]
      obtain ⟨c', a, b⟩ := mono r (n + 1) ((x, n) :: acc) x n n (by omega) (by simp [List.lookup_cons]) (Nat.le_refl n)
      exact ⟨c', a, b⟩
    · have hb : (x == y) = false := by simpa using hxy
      rw [hb] at h
      split
      · obtain ⟨c', a, b⟩ := ih (n + 1) ((y, n) :: acc) x h
        exact ⟨c', a, by omega⟩
      · exact ih n acc x h
/-- the frame of a call -/
noncomputable def callEnv (fd : FuncData) (L a : Addr) : Env := newEnv fd.scope L fd.globals (cellsFrom (L + 1) fd.scope.names fd.closure) (fd.qualname ++ ".<locals>.") (some a) fd.code none fd.builtins
noncomputable def mkC (B : Bs) (A : Around) (h₀ : Heap) (fd : FuncData) (a : Addr) : Cx B := { A := A.deeper (callEnv fd h₀.objs.size a), env := callEnv fd h₀.objs.size a, h₀ := h₀ }
/-- each new cell is empty, and the cells are apart -/
structure CellsOk2 (h : Heap) (lo : Nat) (cl cs : List (Str × Addr)) : Prop where
  empty : ∀ n c, (n, c) ∈ cs → (n, c) ∈ cl ∨ (h.IsCell c none ∧ lo ≤ c)
  apart : cs.Pairwise fun x y => x.2 ≠ y.2
theorem cellsFrom_ok2 (cl : List (Str × Addr)) : ∀ (names : List (Str × NameKind)) (h : Heap) (lo : Nat) (acc : List (Str × Addr)), CellsOk2 h lo cl acc → (∀ p ∈ acc, p.2 < h.objs.size) → lo ≤ h.objs.size →
    CellsOk2 (pushCells h names) lo cl (cellsFrom h.objs.size names acc)
  | [], _, _, _, x, _, _ => x
  | (name, kind) :: r, h, lo, acc, x, hlt, hlo => by
    unfold pushCells cellsFrom
    split
    · have := cellsFrom_ok2 cl r (h.push { cls := .type "cell", data := .cell none }) lo ((name, h.objs.size) :: acc)
        ⟨fun n c hm => by
            rcases List.mem_cons.mp hm with e | hm
            · cases e; exact .inr ⟨⟨_, Heap.get?_push_size _ rfl, rfl⟩, hlo⟩
            · exact (x.empty n c hm).imp id fun q => ⟨q.1.keeps fun b o e => Heap.get?_push_of_some _ e, q.2⟩,
          List.pairwise_cons.mpr ⟨fun y hy e => by
            have e' : h.objs.size = y.2 := e
            exact Nat.lt_irrefl _ (Nat.lt_of_lt_of_le (hlt y hy) (Nat.le_of_eq e')), x.apart⟩⟩ (fun p hp => by
              rw [Heap.size_push]
              rcases List.mem_cons.mp hp with rfl | hp
              · exact Nat.lt_succ_self _
              · have : (p.2 : Nat) < h.objs.size := hlt p hp
                exact Nat.lt_succ_of_lt this) (by rw [Heap.size_push]; omega)
      rwa [Heap.size_push] at this
    · exact cellsFrom_ok2 cl r h lo acc x hlt hlo
theorem pushCells_size : ∀ (names : List (Str × NameKind)) (h : Heap), h.objs.size ≤ (pushCells h names).objs.size
  | [], _ => Nat.le_refl _
  | (_, kind) :: r, h => by
    unfold pushCells
    split
    · exact Nat.le_trans (by rw [Heap.size_push]; omega) (pushCells_size r _)
    · exact pushCells_size r h
theorem enter {A A' : Around} {F : Addr → Prop} {s : Shared} {fd : FuncData} {a : Addr} {ρ₀ : Rho B} {xs : List Str} {vs : List Value} {Ps : List (Pd B)}
    (hb : Base B s.heap) (hst : Stk B A s.heap) (hlt : ∀ b, F b → b < s.heap.objs.size) (hk : fd.scope.kind = .function) (hg : fd.globals = mainGlobals) (hbl : fd.builtins = builtinsNs)
    (hlen : xs.length = vs.length) (hvs : all2 F s.heap Ps vs) (hxs : ∀ x ∈ xs, fd.scope.names.lookup x = some .local ∨ fd.scope.names.lookup x = some .cell)
    (hcl : ∀ p ∈ fd.closure, p.2 < s.heap.objs.size) (hap : fd.closure.Pairwise fun x y => x.2 ≠ y.2)
    (hρ : ∀ x P, ρ₀ x = some P → fd.scope.names.lookup x = some .free ∧ ∃ c v, (cellsFrom (s.heap.objs.size + 1) fd.scope.names fd.closure).lookup x = some c ∧ s.heap.IsCell c (some v) ∧ P.p F s.heap v) :
    wpAny (md B) A' (newFunctionEnv fd.scope fd.globals fd.closure (xs.zip vs) (fd.qualname ++ ".<locals>.") (some a) fd.code none fd.builtins)
      (fun env s₂ => env = callEnv fd s.heap.objs.size a ∧ Rest s s₂ ∧ ∃ F', (∀ b, F b → F' b) ∧ (∀ b, F' b → F b ∨ s.heap.objs.size ≤ b) ∧ Frm (mkC B A s.heap fd a) F' s₂.heap (updL ρ₀ xs Ps) (fun _ => none)) noE s := by
  simp only [newFunctionEnv, Option.isSome_none, Bool.false_eq_true, if_false]
  refine wpAny_bind (wpAny_alloc ?_)
  refine wpAny_bind (wpAny_layCells _ (fun name kind cells => ?_) _ _ _ _ ?_)
  · cases kind <;> rfl
  have hsz : ({ s with heap := s.heap.push { cls := .type "frame", data := .dict #[] } } : Shared).heap.objs.size = s.heap.objs.size + 1 := Heap.size_push ..
  rw [hsz]
  have hpc := pushCells_size fd.scope.names (s.heap.push { cls := .type "frame", data := .dict #[] })
  have hkeep := pushCells_keeps fd.scope.names (s.heap.push { cls := .type "frame", data := .dict #[] })
  have hok := cellsFrom_ok2 fd.closure fd.scope.names (s.heap.push { cls := .type "frame", data := .dict #[] }) (s.heap.objs.size + 1) fd.closure ⟨fun n c h => .inl h, hap⟩ (fun p hp => by rw [Heap.size_push]; exact Nat.lt_succ_of_lt (hcl p hp)) (by rw [Heap.size_push]; omega)
  rw [Heap.size_push] at hok hpc
  generalize hh2 : pushCells (s.heap.push { cls := .type "frame", data := .dict #[] }) fd.scope.names = h₂ at hpc hkeep hok
  have hk2 : ∀ b o, s.heap.get? b = some o → h₂.get? b = some o := fun b o e => hkeep b o (Heap.get?_push_of_some _ e)
  have hp2 : Pres B none' s.heap h₂ := .of_keep hk2 (by omega)
  have hnone : s.heap.get? s.heap.objs.size = Option.none := Heap.get?_none_of_le (Nat.le_refl _)
  have hweak : ∀ b, (F b ∨ (s.heap.objs.size ≤ b ∧ b < h₂.objs.size)) → F b ∨ s.heap.get? b = Option.none := fun b q => q.imp id fun q => Heap.get?_none_of_le q.1
  have f₂ : Frm (mkC B A s.heap fd a) (fun b => F b ∨ (s.heap.objs.size ≤ b ∧ b < h₂.objs.size)) h₂ ρ₀ (fun _ => none) :=
    { base := hb
      pres := hp2
      kind := hk
      glob := hg
      blt := hbl
      fl := .inr ⟨Nat.le_refl _, by show s.heap.objs.size < _; omega⟩
      lt := fun b q => q.elim (fun q => by have : (b : Nat) < s.heap.objs.size := hlt b q; exact Nat.lt_of_lt_of_le this (by omega)) fun q => q.2
      fresh := hnone
      stk := by
        obtain ⟨l, e, hl⟩ := hst
        refine ⟨callEnv fd s.heap.objs.size a :: l, by show A.frames.map _ = _; rw [e]; rfl, fun env he => ?_⟩
        rcases List.mem_cons.mp he with rfl | he
        · exact ⟨hk, s.heap.objs.size, rfl, hb.size, .inl rfl⟩
        · obtain ⟨hk', L, hf, hn, o, es, n, ho, hd⟩ := hl env he
          exact ⟨hk', L, hf, hn, .inr ⟨o, es, n, ho, hd⟩⟩
      loc := ⟨fun _ => none, ⟨_, #[], 0, hkeep _ _ (Heap.get?_push_size _ rfl), rfl, fun _ he => by simp at he, fun _ => rfl⟩, fun x P hx hk => by
        have := (hρ x P hx).1
        have hk' : fd.scope.names.lookup x = some .local := hk
        rw [this] at hk'; cases hk'⟩
      cel := fun x P hx _ => by
        obtain ⟨_, c, v, hl, ⟨o, e, hd⟩, hp⟩ := hρ x P hx
        exact ⟨c, v, hl, ⟨o, hk2 _ _ e, hd⟩, P.mono (P.weak hp hweak) hp2.any⟩
      kinds := fun x P hx => .inr (.inr (hρ x P hx).1)
      own := fun x _ hx => by
        obtain ⟨c, hl, hc⟩ := lookup_cellsFrom fd.scope.names (s.heap.objs.size + 1) fd.closure x hx
        have hm := mem_of_lookup hl
        have hcell : h₂.IsCell c none := by
          rcases hok.empty x c hm with q | q
          · exact absurd (hcl _ q) (Nat.not_lt.mpr (Nat.le_of_succ_le hc))
          · exact q.1
        obtain ⟨o, e, _⟩ := id hcell
        have hc' : s.heap.objs.size ≤ (c : Nat) := Nat.le_of_succ_le hc
        exact ⟨c, none, hl, .inr ⟨hc', Heap.lt_size e⟩, hc', hcell⟩
      inj := fun x y c hx hy => name_of_addr hok.apart (mem_of_lookup hx) (mem_of_lookup hy)
      lst := fun _ _ q => nomatch q }
  refine wpAny_bind (wpMono (binds_loop (C := mkC B A s.heap fd a) xs vs Ps ρ₀ { s with heap := h₂ } hlen f₂ ((hvs.weak hweak).mono hp2.any) fun x hx => ?_) fun _ s₃ ⟨r₃, f₃⟩ => wpAny_pure ⟨rfl, ⟨r₃.1, r₃.2, r₃.3⟩, _, fun b q => .inl q, fun b q => q.imp id (·.1), f₃⟩)
  exact (hxs x hx).imp id fun q => ⟨q, rfl⟩
theorem Base.nolimit {h : Heap} (b : Base B h) : h.NoLimit := B.nolimit.keeps b.keep
theorem Fn.introH {H : Option Value → Prop} {a : Addr} {fd : FuncData} {body : List Stmt} {xs : List Str} {Ps : List (Pd B)} {P : Pd B} {n : Nat}
    (hget : ∀ h, Base B h → ∃ o, h.get? a = some o ∧ o.data = .func fd ∧ h.CodeRec fd.code fd.qualname)
    (hex : ∀ A h₀, Room (n + 1) A → H A.handled → Base B h₀ → Ex (mkC B A h₀ fd a) (updL (fun _ => none) xs Ps) (fun _ => none) body (.ret P))
    (hlen : xs.length = Ps.length := by rfl)
    (hbind : ∀ vs, vs.length = xs.length → bindArgs fd ⟨vs, []⟩ = pure (xs.zip vs))
    (hbody : fd.body = .stmts body := by rfl) (hclo : fd.closure = [] := by rfl) (hk : fd.scope.kind = .function := by rfl) (hg : fd.globals = mainGlobals := by rfl) (hbl : fd.builtins = builtinsNs := by rfl)
    (hco : fd.scope.isCoroutine = false := by rfl) (hgen : fd.scope.isGenerator = false := by rfl)
    (hxs : ∀ x ∈ xs, fd.scope.names.lookup x = some .local ∨ fd.scope.names.lookup x = some .cell := by decide) : Fn B (n + 1) (.ref a) Ps P H where
  kept := fun h hb => let ⟨o, h1, h2, _⟩ := hget h hb; ⟨o, fd, h1, h2⟩
  call := fun F A s vs hr hh hst hb hlt hvs => by
    obtain ⟨o, ho, hd, hcd⟩ := hget _ hb
    have hl : vs.length = xs.length := hvs.length.trans hlen.symm
    refine wpAny_call (codeAny_call_function (by have := hr.depth; show A.depth < 1000; omega) ho hd hco hgen hbody hcd ?_)
    rw [hbind vs hl]
    refine wpAny_pure (wpMono (enter (A := A) (ρ₀ := fun _ => none) hb hst hlt hk hg hbl hl.symm hvs hxs (by rw [hclo]; intro _ h; cases h) (by rw [hclo]; exact .nil) (fun _ _ q => nomatch q)) fun env s₂ h₂ => ?_)
    obtain ⟨rfl, r₂, F', hF, hF', f₂⟩ := h₂
    refine ⟨f₂.h.nolimit, codeAny_func (wpMono (hex A s.heap hr hh hb F' s₂ f₂) fun f s₃ ⟨r₃, _, h₃⟩ => ?_)⟩
    cases f with
    | ret v => exact ⟨⟨h₃.1, r₂.trans r₃⟩, P.weak h₃.2 fun b q => .inl ⟨hF b q, hlt b q⟩⟩
    | next => exact h₃.elim
    | brk => exact h₃.elim
    | cont => exact h₃.elim
theorem Fn.intro {a : Addr} {fd : FuncData} {body : List Stmt} {xs : List Str} {Ps : List (Pd B)} {P : Pd B} {n : Nat}
    (hget : ∀ h, Base B h → ∃ o, h.get? a = some o ∧ o.data = .func fd ∧ h.CodeRec fd.code fd.qualname)
    (hex : ∀ A h₀, Room (n + 1) A → A.handled = none → Base B h₀ → Ex (mkC B A h₀ fd a) (updL (fun _ => none) xs Ps) (fun _ => none) body (.ret P))
    (hlen : xs.length = Ps.length := by rfl)
    (hbind : ∀ vs, vs.length = xs.length → bindArgs fd ⟨vs, []⟩ = pure (xs.zip vs))
    (hbody : fd.body = .stmts body := by rfl) (hclo : fd.closure = [] := by rfl) (hk : fd.scope.kind = .function := by rfl) (hg : fd.globals = mainGlobals := by rfl) (hbl : fd.builtins = builtinsNs := by rfl)
    (hco : fd.scope.isCoroutine = false := by rfl) (hgen : fd.scope.isGenerator = false := by rfl)
    (hxs : ∀ x ∈ xs, fd.scope.names.lookup x = some .local ∨ fd.scope.names.lookup x = some .cell := by decide) : Fn B (n + 1) (.ref a) Ps P := Fn.introH (H := fun x => x = Option.none) hget hex hlen hbind hbody hclo hk hg hbl hco hgen hxs
end Mine
open PySem PySem.W PyProof.Rows
set_option Elab.async false
set_option maxRecDepth 100000
set_option linter.unusedVariables false
set_option linter.unusedSimpArgs false
namespace Mine
variable {B : Bs} {C : Cx B} {ρ : Rho B} {μ : Mu B}
theorem glob_of {K : Frag} (HK : K.In B.hb) {x : Str} {v : Value} (e : nsIn K mainGlobals x = some (some v)) : B.mg x = some v := mg_of HK B.g e
theorem blt_of {K : Frag} (HK : K.In B.hb) {x : Str} (e : nsIn K mainGlobals x = some none) : B.mg x = none := ns_none_of HK B.g e
theorem get_of {K : Frag} (HK : K.In B.hb) {a c : Addr} {cl cl' : Value} {d d' : Option Addr} {sl sl' : Array (Option Value)} {fd : FuncData} {vs : Array Value} {t : Tok} (e : K.lookup a = some ⟨cl, d, .func fd, sl⟩) (hc : fd.code = .ref c)
    (e' : K.lookup c = some ⟨cl', d', .fields vs, sl'⟩) (hq : vs[1]? = some (.str fd.qualname t)) : ∀ h, Base B h → ∃ o, h.get? a = some o ∧ o.data = .func fd ∧ h.CodeRec fd.code fd.qualname :=
  fun h hb => ⟨_, hb.keep _ _ (HK _ _ e), rfl, c, _, vs, t, hc, hb.keep _ _ (HK _ _ e'), rfl, hq⟩
theorem push_get {h : Heap} {o : Obj} (ho : o.isFreed = false) : (h.push o).get? h.objs.size = some o := Heap.get?_push_size h ho
theorem Ev.tuple {es : List Expr} {k : Nat} {pos : Pos} {ds : List D} (h : EvL C ρ μ es (ds.map pd)) (hl : ds.length ≤ sizeLine := by first | decide | (simp only [List.length_cons, List.length_nil]; decide)) : Ev C ρ μ (.Tuple es k pos) (pd (.tup ds)) := fun F s f =>
  wpAny_Tuple_spliced (wpMono (h F s pos f) fun vs s₁ ⟨p₁, h₁⟩ => ⟨by rw [h₁.length, List.length_map]; exact hl, p₁.trans (.push _), by
    simp only [pd, rep]
    refine ⟨_, vs, rfl, fun q => Nat.lt_irrefl _ ((f.step p₁.p).lt _ q), ⟨0, push_get rfl⟩, ?_⟩
    exact all2.pds.mp (h₁.mono (Pres.push _))⟩)
theorem Ev.list {es : List Expr} {pos : Pos} {ds : List D} (h : EvL C ρ μ es (ds.map pd)) (hl : ds.length ≤ sizeLine := by first | decide | (simp only [List.length_cons, List.length_nil]; decide)) : Ev C ρ μ (.List es pos) (pd (.lst ds)) := fun F s f =>
  List_ (wpMono (h F s pos f) fun vs s₁ ⟨p₁, h₁⟩ => wpAny_newList ⟨p₁.trans (.push _), by
    simp only [pd, rep]
    refine ⟨_, vs, rfl, fun q => Nat.lt_irrefl _ ((f.step p₁.p).lt _ q), ⟨0, push_get rfl⟩, ?_⟩
    exact all2.pds.mp (h₁.mono (Pres.push _))⟩ (by rw [h₁.length, List.length_map]; exact hl))
end Mine
open PySem PySem.W PyProof.Rows
set_option Elab.async false
set_option maxRecDepth 100000
set_option linter.unusedVariables false
set_option linter.unusedSimpArgs false
namespace Mine
variable {B : Bs} {C : Cx B} {ρ : Rho B} {μ : Mu B}
/-- a text by the list of its signs -/
noncomputable def mkS (l : List Nat) : Str := ⟨l.toArray⟩
noncomputable abbrev ptx (l : List Nat) : Pd B := pstr (mkS l)
theorem mkS_append (a b : List Nat) : mkS a ++ mkS b = mkS (a ++ b) := by
  show Str.append _ _ = _
  simp [mkS, Str.append]
theorem mkS_length (a : List Nat) : (mkS a).length = a.length := by simp [mkS, Str.length]
theorem mkS_inj {a b : List Nat} : mkS a = mkS b ↔ a = b := by
  constructor
  · intro h; have := congrArg (fun x => x.cps.toList) h; simpa [mkS] using this
  · rintro rfl; rfl
theorem mkS_beq (a b : List Nat) : (mkS a == mkS b) = (a == b) := by
  by_cases h : a = b
  · subst h; simp
  · rw [beq_eq_false_iff_ne.mpr h, beq_eq_false_iff_ne]; exact fun q => h (mkS_inj.mp q)
theorem Ev.tx {x : Str} {l : List Nat} {k pos} (h : x = mkS l := by rfl) : Ev C ρ μ (.Constant (.str x) k pos) (ptx l) := by subst h; exact Ev.str
theorem Ev.catS {l r : Expr} {pos : Pos} {i j : List Nat} (hl : Ev C ρ μ l (ptx i)) (hr : Ev C ρ μ r (ptx j)) (hs : i.length + j.length ≤ 1000) : Ev C ρ μ (.BinOp l .Add r pos) (ptx (i ++ j)) := by
  have := Ev.cat (pos := pos) hl hr (by rw [mkS_length, mkS_length]; exact Nat.le_trans hs (by decide))
  rwa [mkS_append] at this
theorem Ev.eqS {l r : Expr} {pos : Pos} {i j : List Nat} (hl : Ev C ρ μ l (ptx i)) (hr : Ev C ρ μ r (ptx j)) (hm : behindInMarks .Eq r = false := by with_unfolding_all rfl) : Ev C ρ μ (.Compare l [.Eq] [r] pos) (pbool (i == j)) := by
  have := Ev.seq (pos := pos) hl hr hm
  rwa [mkS_beq] at this
theorem Ev.neS {l r : Expr} {pos : Pos} {i j : List Nat} (hl : Ev C ρ μ l (ptx i)) (hr : Ev C ρ μ r (ptx j)) (hm : behindInMarks .NotEq r = false := by with_unfolding_all rfl) : Ev C ρ μ (.Compare l [.NotEq] [r] pos) (pbool (i != j)) := by
  have := Ev.sne (pos := pos) hl hr hm
  rwa [show (mkS i != mkS j) = (i != j) from by unfold bne; rw [mkS_beq]] at this
/-- a subscript, by its value and index -/
theorem Ev.subs {value slice : Expr} {pos : Pos} {P Q R : Pd B} (hv : Ev C ρ μ value P) (hs : Ev C ρ μ slice Q)
    (h : ∀ F s o i, Frm C F s.heap ρ μ → P.p F s.heap o → Q.p F s.heap i → wpAny (md B) C.A (subscriptTail value slice o i) (fun v s' => Stp B s s' ∧ R.p F s'.heap v) noE s) : Ev C ρ μ (.Subscript value slice pos) R := fun F s f =>
  Subscript_ (wpMono (hv F s f) fun o s₁ ⟨p₁, h₁⟩ => wpMono (hs F s₁ (f.step p₁.p)) fun i s₂ ⟨p₂, h₂⟩ =>
    wpMono (h F s₂ o i ((f.step p₁.p).step p₂.p) (P.mono h₁ p₂.p.any) h₂) fun v s₃ ⟨p₃, h₃⟩ => ⟨(p₁.trans p₂).trans p₃, h₃⟩)
theorem tail_any' {A : Around} {value slice : Expr} {o i : Value} {T id : String} {s : Shared} {Q : Value → Shared → Prop} {E : Value → Shared → Prop} (hT : s.TypeIs o T)
    (hl : typeLookup (.type T) "__getitem__" = pure (some (.builtin id))) (h : wpAny (md B) A (getItem o i) Q E s)
    (hs : subscripted slice false o i = operate [o, i] (getItem o i)) : wpAny (md B) A (subscriptTail value slice o i) Q E s := tail_any hT hl h hs
theorem IsSeq.isList {h : Heap} {a : Addr} {vs : List Value} (x : IsSeq h "list" a vs) : h.IsList a vs.toArray := let ⟨n, e⟩ := x; ⟨_, e, rfl, n, rfl⟩
theorem IsSeq.isTup {h : Heap} {a : Addr} {vs : List Value} (x : IsSeq h "tuple" a vs) : IsTup h a vs.toArray := let ⟨n, e⟩ := x; ⟨_, e, rfl, n, rfl⟩
theorem seqIndex_nat {k : Int} {n : Nat} (h0 : 0 ≤ k) (h1 : k.toNat < n) : seqIndex? k n = some k.toNat := by
  have hn : ¬ k < 0 := by omega
  have h2 : k < (n : Int) := by omega
  simp [seqIndex?, hn, h0, h2]
theorem reps_get {F : Addr → Prop} {h : Heap} : ∀ {vs : List Value} {ds : List D}, reps F h vs ds → ∀ {i : Nat} {d : D}, ds[i]? = some d → ∃ v, vs[i]? = some v ∧ rep F h v d
  | v :: _, d :: _, x, 0, _, e => by simp only [reps] at x; cases e; exact ⟨v, rfl, x.1⟩
  | _ :: _, _ :: _, x, i + 1, _, e => by simp only [reps] at x; simpa using reps_get x.2 (i := i) (by simpa using e)
  | [], [], _, _, _, e => by simp at e
  | [], _ :: _, x, _, _, _ => by simp [reps] at x
  | _ :: _, [], x, _, _, _ => by simp [reps] at x
theorem reps_length {F : Addr → Prop} {h : Heap} : ∀ {vs : List Value} {ds : List D}, reps F h vs ds → vs.length = ds.length
  | _ :: _, _ :: _, x => by simp only [reps] at x; simp [reps_length x.2]
  | [], [], _ => rfl
  | [], _ :: _, x => by simp [reps] at x
  | _ :: _, [], x => by simp [reps] at x
theorem lst_of {F : Addr → Prop} {h : Heap} {l : List D} {v : Value} (x : (pd (B := B) (.lst l)).p F h v) : ∃ a vs, v = .ref a ∧ ¬ F a ∧ IsSeq h "list" a vs ∧ reps F h vs l := by simpa [pd, rep] using x
theorem tup_of {F : Addr → Prop} {h : Heap} {l : List D} {v : Value} (x : (pd (B := B) (.tup l)).p F h v) : ∃ a vs, v = .ref a ∧ ¬ F a ∧ IsSeq h "tuple" a vs ∧ reps F h vs l := by simpa [pd, rep] using x
/-- is the slice a plain index? -/
noncomputable def plainIx : Expr → Bool
  | .Slice .. => false
  | _ => true
theorem subscripted_ix {slice : Expr} {o i : Value} (h : plainIx slice = true) : subscripted slice false o i = operate [o, i] (getItem o i) := by
  cases slice <;> first | rfl | cases h
theorem Ev.ixL {value slice : Expr} {pos : Pos} {l : List D} {k : Int} {d : D} (hv : Ev C ρ μ value (pd (.lst l))) (hs : Ev C ρ μ slice (pint k)) (h0 : 0 ≤ k) (hk : k < 2 ^ 63) (hd : l[k.toNat]? = some d) (hp : plainIx slice = true := by rfl) :
    Ev C ρ μ (.Subscript value slice pos) (pd d) := Ev.subs hv hs fun F s o i f ho hi => by
  obtain ⟨a, vs, rfl, hF, hq, hr⟩ := lst_of ho
  obtain ⟨t, rfl⟩ := int_of hi
  obtain ⟨v, hv, hr⟩ := reps_get hr hd
  exact tail_any' hq.isList.typeIs slot_list_getitem.lookup (wpAny_getItem_list hq.isList h0 hk (by simpa using hv) ⟨.refl, hr⟩) (subscripted_ix hp)
theorem Ev.ixT {value slice : Expr} {pos : Pos} {l : List D} {k : Int} {d : D} (hv : Ev C ρ μ value (pd (.tup l))) (hs : Ev C ρ μ slice (pint k)) (h0 : 0 ≤ k) (hk : k < 2 ^ 63) (hd : l[k.toNat]? = some d) (hp : plainIx slice = true := by rfl) :
    Ev C ρ μ (.Subscript value slice pos) (pd d) := Ev.subs hv hs fun F s o i f ho hi => by
  obtain ⟨a, vs, rfl, hF, hq, hr⟩ := tup_of ho
  obtain ⟨t, rfl⟩ := int_of hi
  obtain ⟨v, hv, hr⟩ := reps_get hr hd
  have hlt : k.toNat < vs.length := by
    rcases Nat.lt_or_ge k.toNat vs.length with q | q
    · exact q
    · rw [List.getElem?_eq_none q] at hv; cases hv
  exact tail_any' hq.isTup.typeIs slot_tuple_getitem.lookup (getItem_tuple hq.isTup (by omega) hk (seqIndex_nat h0 (by simpa using hlt)) (by simpa using hv) ⟨.refl, hr⟩) (subscripted_ix hp)
theorem Ev.ixS {value slice : Expr} {pos : Pos} {l : List Nat} {k : Int} {c : Nat} (hv : Ev C ρ μ value (ptx l)) (hs : Ev C ρ μ slice (pint k)) (h0 : 0 ≤ k) (hk : k < 2 ^ 63) (hd : l[k.toNat]? = some c) (hp : plainIx slice = true := by rfl) :
    Ev C ρ μ (.Subscript value slice pos) (ptx [c]) := Ev.subs hv hs fun F s o i f ho hi => by
  obtain ⟨u, rfl⟩ := str_of ho
  obtain ⟨t, rfl⟩ := int_of hi
  have hlt : k.toNat < l.length := by
    rcases Nat.lt_or_ge k.toNat l.length with q | q
    · exact q
    · rw [List.getElem?_eq_none q] at hd; cases hd
  refine tail_any' (typeIs_str s _ _) slot_str_getitem.lookup (getItem_str (c := c) (by simp; omega) ?_ ⟨.toks, of_str⟩) (subscripted_ix hp)
  rw [mkS_length, seqIndex_nat h0 hlt]
  simpa [mkS] using hd
end Mine
open PySem PySem.W PyProof.Rows
set_option Elab.async false
set_option maxRecDepth 100000
set_option linter.unusedVariables false
set_option linter.unusedSimpArgs false
namespace Mine
theorem setGen_heap (s : Shared) (g : Nat) (x : GenState) : (s.setGen g x).heap = s.heap := rfl
theorem runs_size {M : Model} {Γ : Ctx} {p : Pos} {t : Sem Fin} {fs : List Frame} {s s' : Shared} {e : End} (h : Runs M Γ p t fs s e s') : s.heap.objs.size ≤ s'.heap.objs.size := by
  induction h with
  | update _ _ ih => rw [Heap.size_after_update] at ih; exact ih
  | alloc _ ih => rw [Heap.size_push] at ih; omega
  | _ => first | exact Nat.le_refl _ | assumption | ((try simp only [setGen_heap] at *); omega)
theorem wakes_size {M : Model} {Γ : Ctx} {p : Pos} {g : Nat} {r : Resume} {s s' : Shared} {res : GenResult} (h : Wakes M Γ p g r s res s') : s.heap.objs.size ≤ s'.heap.objs.size := by
  unfold Wakes at h
  split at h
  · exact h.elim
  · split at h
    · obtain ⟨e₁, s₁, h1, _, _, rfl⟩ := h; have := runs_size h1; exact this
    · obtain ⟨_, rfl⟩ := h; exact Nat.le_refl _
    · obtain ⟨_, rfl⟩ := h; exact Nat.le_refl _
  · obtain ⟨e₁, s₁, h1, _, _, rfl⟩ := h; have := runs_size h1; exact this
  · obtain ⟨_, rfl⟩ := h; exact Nat.le_refl _
  · obtain ⟨_, rfl⟩ := h; exact Nat.le_refl _
/-- the heap never loses room -/
theorem wp_size {α : Type} (M : Model) (Γ : Ctx) (t : Sem α) : ∀ {Q : α → Pos → Shared → Prop} {E : Value → Pos → Shared → Prop} {p : Pos} {s : Shared}, Sem.wp M Γ t Q E p s →
    Sem.wp M Γ t (fun a p' s' => Q a p' s' ∧ s.heap.objs.size ≤ s'.heap.objs.size) (fun e p' s' => E e p' s' ∧ s.heap.objs.size ≤ s'.heap.objs.size) p s := by
  induction t with
  | pure x => exact fun h => ⟨h, Nat.le_refl _⟩
  | raise v => exact fun h => ⟨h, Nat.le_refl _⟩
  | unsupported | finish | yield | fork | await | register => exact id
  | rule _ k ih | «at» _ k ih | loadIfAlive _ k ih | point _ k ih | fresh k ih | ask k ih | os _ _ k ih | handled _ k ih | newGen _ k ih | stack k ih | thread k ih => exact fun h => ih _ h
  | alloc o k ih =>
    intro Q E p s h
    refine Sem.wp_mono M Γ _ (fun a p' s' q => ⟨q.1, ?_⟩) (fun a p' s' q => ⟨q.1, ?_⟩) _ _ (ih _ h)
    · have := q.2; simp only [Heap.size_push] at this; omega
    · have := q.2; simp only [Heap.size_push] at this; omega
  | load a _ k ih | genState a k ih => exact fun ⟨o, ho, h⟩ => ⟨o, ho, ih _ h⟩
  | choose _ _ k ih => exact fun ⟨ha, h⟩ => ⟨ha, ih _ h⟩
  | update a _ f k ih =>
    intro Q E p s ⟨ha, h⟩
    refine ⟨ha, Sem.wp_mono M Γ _ (fun a p' s' q => ⟨q.1, ?_⟩) (fun a p' s' q => ⟨q.1, ?_⟩) _ _ (ih _ h)⟩
    · have := q.2; simp only [Heap.size_after_update] at this; exact this
    · have := q.2; simp only [Heap.size_after_update] at this; exact this
  | call c h g l k ih =>
    intro Q E p s ⟨r, s₁, hr, hk⟩
    have hz := runs_size hr
    exact ⟨r, s₁, hr, Sem.wp_mono M Γ _ (fun a p' s' q => ⟨q.1, Nat.le_trans hz q.2⟩) (fun a p' s' q => ⟨q.1, Nat.le_trans hz q.2⟩) _ _ (ih _ hk)⟩
  | resume g r l k ih =>
    intro Q E p s ⟨res, s₁, hr, hk⟩
    have hz := wakes_size hr
    exact ⟨res, s₁, hr, Sem.wp_mono M Γ _ (fun a p' s' q => ⟨q.1, Nat.le_trans hz q.2⟩) (fun a p' s' q => ⟨q.1, Nat.le_trans hz q.2⟩) _ _ (ih _ hk)⟩
theorem wpAny_size {α : Type} {M : Model} {A : Around} {t : Sem α} {Q : α → Shared → Prop} {E : Value → Shared → Prop} {s : Shared} (h : wpAny M A t Q E s) :
    wpAny M A t (fun a s' => Q a s' ∧ s.heap.objs.size ≤ s'.heap.objs.size) (fun e s' => E e s' ∧ s.heap.objs.size ≤ s'.heap.objs.size) s := fun Γ p hΓ => wp_size M Γ t (h Γ p hΓ)
theorem wpSize {α : Type} {M : Model} {A : Around} {t : Sem α} {Q Q' : α → Shared → Prop} {E : Value → Shared → Prop} {s : Shared} (h : wpAny M A t Q E s) (hQ : ∀ a s', Q a s' → s.heap.objs.size ≤ s'.heap.objs.size → Q' a s') : wpAny M A t Q' E s :=
  wpAny_mono (wpAny_size h) (fun a s' q => hQ a s' q.1 q.2) fun _ _ q => q.1
variable {B : Bs}
theorem Pres.extBut {F : Addr → Prop} {h h' : Heap} {a : Addr} (hx : Heap.ExtBut a h h') (hp : ∀ o, h.get? a = some o → plainObj o ∧ F a) (hs : h.objs.size ≤ h'.objs.size) : Pres B F h h' := by
  refine ⟨fun b o' e' f _ => ?_, fun b o' e' f _ => ⟨o'.slots, hx b o' (fun q => by subst q; exact f (hp _ e').2) e'⟩, GoodTab.keep fun b o' e' f => ?_, hs⟩
  · by_cases hb : b = a
    · subst hb; obtain ⟨q, hF⟩ := hp _ e'; exact absurd hF (f.resolve_right q.1)
    · exact hx b o' hb e'
  · by_cases hb : b = a
    · subst hb; obtain ⟨q, hF⟩ := hp _ e'; rcases f with f | f
      · exact absurd f q.1
      · rw [q.2] at f; cases f
    · exact hx b o' hb e'
end Mine
open PySem PySem.W PyProof.Rows
set_option Elab.async false
set_option maxRecDepth 100000
set_option linter.unusedVariables false
set_option linter.unusedSimpArgs false
namespace Mine
variable {B : Bs} {C : Cx B} {ρ : Rho B} {μ : Mu B}
/-- the ints of a range iterator -/
noncomputable def rints (x step : Int) : Nat → List (Pd B)
  | 0 => []
  | n + 1 => pint x :: rints (x + step) step n
/-- an iterator at I that will yield these -/
inductive Its (F : Addr → Prop) (h : Heap) (I : Addr) (Ps : List (Pd B)) : Prop
  | list (l : Addr) (i : Nat) (vs : List Value) (it : h.IsListIter I l i) (hF : ¬ F l) (hl : IsSeq h "list" l vs) (hv : all2 F h Ps (vs.drop i))
  | tuple (l : Addr) (i : Nat) (vs : List Value) (it : h.IsTupleIter I l i) (hF : ¬ F l) (hl : IsSeq h "tuple" l vs) (hv : all2 F h Ps (vs.drop i))
  | range (x step : Int) (n : Nat) (it : IsRangeIter h I x n step) (hv : Ps = rints x step n)
theorem drop_cons {vs : List Value} {i : Nat} {v : Value} {r : List Value} (h : vs.drop i = v :: r) : vs[i]? = some v ∧ vs.drop (i + 1) = r := by
  constructor
  · have := congrArg (fun l => l[0]?) h; simpa using this
  · have := congrArg List.tail h; simpa using this
/-- a heap on which the iterator stands as it stood -/
theorem Its.keep {F F' : Addr → Prop} {h h' : Heap} {I : Addr} {Ps : List (Pd B)} (x : Its F h I Ps) (hI : ∀ o, h.get? I = some o → isVar o = false → h'.get? I = some o) (p : Pres B F h h') (up : ∀ b, F b → F' b) (new : ∀ b, F' b → F b ∨ h.objs.size ≤ b) : Its F' h' I Ps := by
  have wk : ∀ b, F' b → F b ∨ h.get? b = none := fun b q => (new b q).imp id fun q => Heap.get?_none_of_le q
  have out : ∀ l T vs, IsSeq h T l vs → ¬ F l → ¬ F' l := fun l T vs ⟨n, e⟩ hl q => (new l q).elim hl fun q => absurd (Heap.lt_size e) (Nat.not_lt.mpr q)
  cases x with
  | list l i vs it hF hl hv =>
    obtain ⟨o, e, hc, hd⟩ := it
    exact .list l i vs ⟨o, hI o e (var_fields hc hd), hc, hd⟩ (out _ _ _ hl hF) (hl.pres hF p) ((hv.weak wk).mono (p.weak up))
  | tuple l i vs it hF hl hv =>
    obtain ⟨o, e, hc, hd⟩ := it
    exact .tuple l i vs ⟨o, hI o e (var_fields hc hd), hc, hd⟩ (out _ _ _ hl hF) (hl.pres hF p) ((hv.weak wk).mono (p.weak up))
  | range x step n it hv => exact .range x step n (hI _ it rfl) hv
theorem Its.plain {F : Addr → Prop} {h : Heap} {I : Addr} {Ps : List (Pd B)} (x : Its F h I Ps) : ∃ o, h.get? I = some o ∧ plainObj o ∧ isVar o = false := by
  cases x with
  | list l i vs it hF hl hv => obtain ⟨o, e, hc, hd⟩ := it; exact ⟨o, e, plain_cls hc (by decide), var_fields hc hd⟩
  | tuple l i vs it hF hl hv => obtain ⟨o, e, hc, hd⟩ := it; exact ⟨o, e, plain_cls hc (by decide), var_fields hc hd⟩
  | range x step n it hv => exact ⟨_, it, plain_cls rfl (by decide), rfl⟩
theorem seq_isTuple {h : Heap} {a : Addr} {vs : List Value} (x : IsSeq h "tuple" a vs) : h.IsTuple a vs.toArray := let ⟨n, e⟩ := x; ⟨_, e, rfl, n, rfl⟩
theorem Its.next {A : Around} {F : Addr → Prop} {s : Shared} {I : Addr} {P : Pd B} {Ps : List (Pd B)} (x : Its F s.heap I (P :: Ps)) (hF : F I) :
    wpAny (md B) A (pyNext (.ref I)) (fun r s' => ∃ v, r = some v ∧ Rest s s' ∧ Heap.SameBut I s.heap s'.heap ∧ P.p F s'.heap v ∧ Its F s'.heap I Ps) noE s := by
  obtain ⟨o, e, hp, _⟩ := x.plain
  cases x with
  | list l i vs it hl hq hv =>
    cases hd : vs.drop i with
    | nil => rw [hd] at hv; exact hv.elim
    | cons v r =>
      rw [hd] at hv
      obtain ⟨h1, h2⟩ := drop_cons hd
      refine wpAny_pyNext_list_item it hq.isList (by simpa using h1) fun h' it' hs => ⟨v, rfl, ⟨rfl, rfl, rfl⟩, hs, P.mono hv.1 (.sameBut hs e hp hF), ?_⟩
      exact .list l (i + 1) vs it' hl (hq.sameBut hs fun q => hl (q ▸ hF)) (by rw [h2]; exact hv.2.mono (.sameBut hs e hp hF))
  | tuple l i vs it hl hq hv =>
    cases hd : vs.drop i with
    | nil => rw [hd] at hv; exact hv.elim
    | cons v r =>
      rw [hd] at hv
      obtain ⟨h1, h2⟩ := drop_cons hd
      refine wpAny_pyNext_tuple_item it (seq_isTuple hq) (by simpa using h1) fun h' it' hs => ⟨v, rfl, ⟨rfl, rfl, rfl⟩, hs, P.mono hv.1 (.sameBut hs e hp hF), ?_⟩
      exact .tuple l (i + 1) vs it' hl (hq.sameBut hs fun q => hl (q ▸ hF)) (by rw [h2]; exact hv.2.mono (.sameBut hs e hp hF))
  | range x step n it hv =>
    cases n with
    | zero => cases hv
    | succ n =>
      obtain ⟨rfl, rfl⟩ := List.cons.inj hv
      refine wpAny_pyNext_range_item it (by omega) fun h' it' hs => ⟨_, rfl, ⟨rfl, rfl, rfl⟩, hs, of_int, ?_⟩
      refine .range (x + step) step n ?_ rfl
      have : ((n + 1 : Nat) : Int) - 1 = (n : Int) := by omega
      rw [this] at it'
      exact it'
theorem Its.fin {A : Around} {F : Addr → Prop} {s : Shared} {I : Addr} (x : Its (B := B) F s.heap I []) (hh : A.handled = none) :
    wpAny (md B) A (pyNext (.ref I)) (fun r s' => r = none ∧ Rest s s' ∧ Heap.ExtBut I s.heap s'.heap) noE s := by
  cases x with
  | list l i vs it hl hq hv =>
    cases hd : vs.drop i with
    | cons v r => rw [hd] at hv; exact hv.elim
    | nil =>
      refine wpAny_pyNext_list_end hh it hq.isList (by simpa using hd) fun h' hx => ⟨rfl, ⟨rfl, rfl, rfl⟩, hx⟩
  | tuple l i vs it hl hq hv =>
    cases hd : vs.drop i with
    | cons v r => rw [hd] at hv; exact hv.elim
    | nil => refine wpAny_pyNext_tuple_end hh it (seq_isTuple hq) (by simpa using hd) fun h' hx => ⟨rfl, ⟨rfl, rfl, rfl⟩, hx⟩
  | range x step n it hv =>
    cases n with
    | succ n => cases hv
    | zero => exact wpAny_pyNext_range_end hh it (by decide) fun h' hx => ⟨rfl, ⟨rfl, rfl, rfl⟩, hx⟩
/-- an iterable, then its iterator, which is new -/
noncomputable def EvI {B : Bs} (C : Cx B) (ρ : Rho B) (μ : Mu B) (e : Expr) (Ps : List (Pd B)) : Prop :=
  ∀ F s, Frm C F s.heap ρ μ → wpAny (md B) C.A (eval e C.env) (fun x s₁ => wpAny (md B) C.A (pyIter x) (fun it s₂ => ∃ I, it = .ref I ∧ Stp B s s₂ ∧ s.heap.objs.size ≤ I ∧ I < s₂.heap.objs.size ∧ Its (fun b => F b ∨ b = I) s₂.heap I Ps) noE s₁) noE s
theorem EvI.list {e : Expr} {ds : List D} (h : Ev C ρ μ e (pd (.lst ds))) : EvI C ρ μ e (ds.map pd) := fun F s f => wpMono (h F s f) fun v s₁ ⟨p₁, h₁⟩ => by
  obtain ⟨a, vs, rfl, hF, hq, hr⟩ := lst_of h₁
  refine wpAny_pyIter_list hq.isList ⟨_, rfl, p₁.trans (.push _), p₁.p.size, by rw [Heap.size_push]; exact Nat.lt_succ_self _, ?_⟩
  have hn : ∀ b, (F b ∨ b = s₁.heap.objs.size) → F b ∨ s₁.heap.get? b = Option.none := fun b q => q.imp id fun q => Heap.get?_none_of_le (Nat.le_of_eq q.symm)
  have hF' : ¬ (F a ∨ a = s₁.heap.objs.size) := fun q => (hn a q).elim hF fun z => (by obtain ⟨n, e⟩ := hq; rw [z] at e; cases e)
  exact .list a 0 vs ⟨_, push_get rfl, rfl, rfl⟩ hF' (hq.pres hF (B := B) (.push _)) (all2.pds.mpr ((hr.weak hn).mono (Pres.push (B := B) _)))
theorem EvI.tuple {e : Expr} {ds : List D} (h : Ev C ρ μ e (pd (.tup ds))) : EvI C ρ μ e (ds.map pd) := fun F s f => wpMono (h F s f) fun v s₁ ⟨p₁, h₁⟩ => by
  obtain ⟨a, vs, rfl, hF, hq, hr⟩ := tup_of h₁
  refine wpAny_pyIter_tuple (seq_isTuple hq) ⟨_, rfl, p₁.trans (.push _), p₁.p.size, by rw [Heap.size_push]; exact Nat.lt_succ_self _, ?_⟩
  have hn : ∀ b, (F b ∨ b = s₁.heap.objs.size) → F b ∨ s₁.heap.get? b = Option.none := fun b q => q.imp id fun q => Heap.get?_none_of_le (Nat.le_of_eq q.symm)
  have hF' : ¬ (F a ∨ a = s₁.heap.objs.size) := fun q => (hn a q).elim hF fun z => (by obtain ⟨n, e⟩ := hq; rw [z] at e; cases e)
  exact .tuple a 0 vs ⟨_, push_get rfl, rfl, rfl⟩ hF' (hq.pres hF (B := B) (.push _)) (all2.pds.mpr ((hr.weak hn).mono (Pres.push (B := B) _)))
/-- a range as it lies -/
noncomputable def prange (a b c : Int) : Pd B where
  p F h v := ∃ r t u w, v = .ref r ∧ ¬ F r ∧ IsRange h r a b c t u w
  mono := fun ⟨r, t, u, w, e, hF, x⟩ p => ⟨r, t, u, w, e, hF, p.obj _ _ x (.inl hF) (.inl rfl)⟩
  weak := fun ⟨r, t, u, w, e, hF, x⟩ hw => ⟨r, t, u, w, e, fun q => (hw r q).elim hF fun z => (by rw [IsRange, z] at x; cases x), x⟩
theorem EvI.range {e : Expr} {a b c : Int} {n : Nat} (h : Ev C ρ μ e (prange a b c)) (hs : Builtin.Range.small a b c = true) (hn : Builtin.Range.rangeSize a b c = n) : EvI C ρ μ e (rints a c n) := fun F s f => wpMono (h F s f) fun v s₁ ⟨p₁, h₁⟩ => by
  obtain ⟨r, t, u, w, rfl, hF, x⟩ := h₁
  refine wpAny_pyIter_range x hs ⟨_, rfl, p₁.trans (.push _), p₁.p.size, by rw [Heap.size_push]; exact Nat.lt_succ_self _, ?_⟩
  exact .range a c n (by rw [hn]; exact push_get rfl) rfl
/-- a target takes a value -/
noncomputable def Asg {B : Bs} (C : Cx B) (ρ : Rho B) (μ : Mu B) (t : Expr) (P : Pd B) (ρ' : Rho B) : Prop :=
  ∀ F s v, Frm C F s.heap ρ μ → P.p F s.heap v → wpAny (md B) C.A (assign t C.env v) (fun _ s' => Rest s s' ∧ Frm C F s'.heap ρ' μ ∧ Pres B (Mut C μ) s.heap s'.heap) noE s
theorem Asg.name {x : Str} {pos : Pos} {P : Pd B} (hk : Sto C x) : Asg C ρ μ (.Name x pos) P (upd ρ x P) := fun F s v f hv => by
  show wpAny (md B) C.A (do standAt pos; bindName C.env x v) _ _ _
  exact wpAny_bind (wpAny_standAt (wpAny_bindName (st_any f hv hk)))
noncomputable def Fo {B : Bs} (C : Cx B) (ρ : Rho B) (μ : Mu B) (Ps : List (Pd B)) (t : Expr) (body : List Stmt) (o : Out B) : Prop :=
  ∀ F s I, Frm C F s.heap ρ μ → F I → ¬ Mut C μ I → C.h₀.get? I = none → Its F s.heap I Ps → codeAny (md B) C.A (.forLoop t (.ref I) body [] C.env)
    (fun r s' => match r with | .ok f => Rest s s' ∧ Pres B (fun b => Mut C μ b ∨ b = I) s.heap s'.heap ∧ OutM C F μ s.heap o f s'.heap | .error _ => False) s
/-- no tuple of the iterator's own is let go -/
noncomputable def plainT : Expr → Bool
  | .Tuple .. | .List .. => false
  | _ => true
theorem letOwned {A : Around} {F : Addr → Prop} {s : Shared} {t : Expr} {I : Addr} {v : Value} {Ps : List (Pd B)} {Q : Unit → Shared → Prop} {E : Value → Shared → Prop} (x : Its F s.heap I Ps) (h : Q () s) : wpAny (md B) A (letOwnedTupleGo t (.ref I) v) Q E s := by
  have key : ∀ n, (∃ o vs, s.heap.get? I = some o ∧ o.cls = .type n ∧ o.data = .fields vs) → (["enumerate", "zip", "dict_itemiterator", "dict_reverseitemiterator", "odict_iterator", "itertools.zip_longest", "itertools.pairwise"].contains n) = false → wpAny (md B) A (letOwnedTupleGo t (.ref I) v) Q E s := by
    intro n ⟨o, vs, ho, hc, hd⟩ hn
    cases t
    all_goals first
      | exact wpAny_pure h
      | (cases v with
         | ref a =>
           refine wpAny_bind (wpAny_load ho ?_)
           rw [hc, hd]
           simp only [hn, Bool.false_and, Bool.false_eq_true, if_false]
           exact wpAny_pure h
         | _ => exact wpAny_pure h)
  cases x with
  | list l i vs it _ _ _ => obtain ⟨o, e, hc, hd⟩ := it; exact key _ ⟨o, _, e, hc, hd⟩ (by decide)
  | tuple l i vs it _ _ _ => obtain ⟨o, e, hc, hd⟩ := it; exact key _ ⟨o, _, e, hc, hd⟩ (by decide)
  | range x step n it _ => exact key _ ⟨_, _, it, rfl, rfl⟩ (by decide)
theorem for_turn {t : Expr} {body : List Stmt} {env : Env} {A : Around} {it : Value} {R : Result → Shared → Prop} {s : Shared}
    (h : wpAny (md B) A (pyNext it) (fun r s₁ => match r with
      | none => R (.ok .next) s₁
      | some v => wpAny (md B) A (letOwnedTupleGo t it v) (fun _ s₂ => wpAny (md B) A (assign t env v) (fun _ s₂ => wpAny (md B) A (execs body env) (fun f s₃ => match f with
          | .next | .cont => codeAny (md B) A (.forLoop t it body [] env) R s₃
          | .brk => R (.ok .next) s₃
          | .ret v => R (.ok (.ret v)) s₃) noE s₂) noE s₂) noE s₁) noE s) : codeAny (md B) A (.forLoop t it body [] env) R s := by
  refine codeAny_of_tree ?_
  show wpAny _ A ((forTurn t it body [] env).onRaise (fun x => do noteFrame x env; theTreesLotGoes x)) _ _ s
  refine wpAny_onRaise (wpAny_mono (E := noE) (Q := fun fin s' => match fin with | .done f => R (.ok f) s' | .again c' => c'.quiet = true ∧ codeAny (md B) A c' R s') ?_ (fun _ _ x => x) fun _ _ x => x.elim)
  simp only [forTurn]
  refine wpAny_bind (wpAny_standAt (wpAny_bind (wpAny_onRaise (wpAny_mono (E := noE) h (fun r s₁ h₁ => ?_) fun _ _ x => x.elim))))
  cases r with
  | none => exact wpAny_pure ⟨rfl, codeAny_block (wpAny_execs_nil h₁)⟩
  | some v =>
    refine wpAny_bind (wpMono h₁ fun _ s₂ h₂ => wpAny_bind (wpMono h₂ fun _ s₂ h₂ => wpAny_bind (wpMono h₂ fun f s₃ h₃ => ?_)))
    cases f with
    | next => exact wpAny_pure ⟨rfl, h₃⟩
    | cont => exact wpAny_pure ⟨rfl, h₃⟩
    | brk => exact wpAny_pure h₃
    | ret v => exact wpAny_pure h₃
/-- a change of a thing that the frame does not own -/
theorem Frm.touch {F : Addr → Prop} {h h' : Heap} {I : Addr} (f : Frm C F h ρ μ) (hx : Heap.ExtBut I h h') (hz : h.objs.size ≤ h'.objs.size) (hF : F I) (hm : ¬ Mut C μ I) (h0 : C.h₀.get? I = Option.none) (hp : ∀ o, h.get? I = some o → plainObj o)
    (hcell : ∀ c v, h.IsCell c v → I ≠ c) : Frm C F h' ρ μ := by
  have pF : Pres B F h h' := .extBut hx (fun o e => ⟨hp o e, hF⟩) hz
  have p0 : Pres B none' C.h₀ h' := f.pres.then (.extBut (F := fun b => b = I) hx (fun o e => ⟨hp o e, rfl⟩) hz) fun b q => by rw [q]; exact h0
  have cell : ∀ c v, h.IsCell c v → h'.IsCell c v := fun c v x => let ⟨o, e, d⟩ := x; ⟨o, hx c o (hcell c v ⟨o, e, d⟩).symm e, d⟩
  refine { base := f.base, pres := p0, kind := f.kind, glob := f.glob, blt := f.blt, fl := f.fl, lt := fun b q => Nat.lt_of_lt_of_le (f.lt b q) hz, fresh := f.fresh, stk := f.stk, loc := ?_, cel := ?_, kinds := f.kinds, own := ?_, inj := f.inj, lst := ?_ }
  · obtain ⟨m, ⟨o, es, ep, e, r⟩, hm'⟩ := f.loc
    exact ⟨m, ⟨o, es, ep, hx _ _ (fun q => hm (.inl q.symm)) e, r⟩, fun x P q k => let ⟨v, a, b⟩ := hm' x P q k; ⟨v, a, P.mono b pF⟩⟩
  · intro x P q k
    obtain ⟨c, v, a, e, b⟩ := f.cel x P q k
    exact ⟨c, v, a, cell _ _ e, P.mono b pF⟩
  · intro x q k
    obtain ⟨c, v, a, b, d, e⟩ := f.own x q k
    exact ⟨c, v, a, b, d, cell _ _ e⟩
  · intro a Ps q
    obtain ⟨x, y, vs, ⟨n, z⟩, w⟩ := f.lst a Ps q
    exact ⟨x, y, vs, ⟨n, hx _ _ (fun r => hm (.inr (.inr (by rw [← r, q]; rfl)))) z⟩, w.mono pF⟩
theorem Its.apart {F : Addr → Prop} {h : Heap} {I : Addr} {Ps : List (Pd B)} (x : Its F h I Ps) : (∀ c v, h.IsCell c v → I ≠ c) ∧ (∀ T a vs, IsSeq h T a vs → I ≠ a) ∧ (∀ L m, h.Ns L m → I ≠ L) := by
  have key : (∃ o vs, h.get? I = some o ∧ o.data = .fields vs) → (∀ c v, h.IsCell c v → I ≠ c) ∧ (∀ T a vs, IsSeq h T a vs → I ≠ a) ∧ (∀ L m, h.Ns L m → I ≠ L) := by
    rintro ⟨o, vs, e, hd⟩
    refine ⟨?_, ?_, ?_⟩
    · rintro c v ⟨o', e', hd'⟩ rfl; rw [e] at e'; cases e'; rw [hd] at hd'; cases hd'
    · rintro T a vs ⟨n, e'⟩ rfl; rw [e] at e'; cases e'; cases hd
    · rintro L m ⟨o', _, _, e', hd', _⟩ rfl; rw [e] at e'; cases e'; rw [hd] at hd'; cases hd'
  cases x with
  | list l i vs it _ _ _ => obtain ⟨o, e, hc, hd⟩ := it; exact key ⟨o, _, e, hd⟩
  | tuple l i vs it _ _ _ => obtain ⟨o, e, hc, hd⟩ := it; exact key ⟨o, _, e, hd⟩
  | range x step n it _ => exact key ⟨_, _, it, rfl⟩
theorem Frm.iterX {F : Addr → Prop} {h h' : Heap} {I : Addr} {Ps : List (Pd B)} (f : Frm C F h ρ μ) (x : Its F h I Ps) (hx : Heap.ExtBut I h h') (hz : h.objs.size ≤ h'.objs.size) (hF : F I) (hm : ¬ Mut C μ I) (h0 : C.h₀.get? I = Option.none) : Frm C F h' ρ μ := by
  obtain ⟨o, e, hp, _⟩ := x.plain
  exact f.touch hx hz hF hm h0 (fun o' e' => by rw [e] at e'; cases e'; exact hp) x.apart.1
theorem Nxt.from {F F' : Addr → Prop} {h h₂ h' : Heap} {ρ' : Rho B} {μ' : Mu B} (n : Nxt C F μ h₂ ρ' μ' h' F') (hz : h.objs.size ≤ h₂.objs.size) : Nxt C F μ h ρ' μ' h' F' :=
  ⟨n.up, fun b q => (n.new b q).imp id fun q => Nat.le_trans hz q, n.frm, fun b q => (n.dom b q).imp id fun q => Nat.le_trans hz q⟩
theorem OutM.from {F : Addr → Prop} {h h₂ h' : Heap} {o : Out B} {f : Flow} (x : OutM C F μ h₂ o f h') (hz : h.objs.size ≤ h₂.objs.size) : OutM C F μ h o f h' := by
  cases o <;> cases f <;> first
    | exact x.elim
    | (obtain ⟨F', n⟩ := x; exact ⟨F', n.from hz⟩)
    | exact x
/-- all but the frame's own and I -/
theorem Pres.mutI {μ μ' : Mu B} {I : Addr} {h h₁ h₂ : Heap} (d : ∀ b, (μ' b).isSome = true → (μ b).isSome = true ∨ h.objs.size ≤ b) (x : Pres B (fun b => Mut C μ b ∨ b = I) h h₁) (y : Pres B (fun b => Mut C μ' b ∨ b = I) h₁ h₂) : Pres B (fun b => Mut C μ b ∨ b = I) h h₂ :=
  ⟨fun b o e f t => y.obj b o (x.obj b o e f t) (f.imp (fun n q => n (q.imp (fun q => q.back d e) id)) id) t, fun b o e f t => by obtain ⟨sl, e'⟩ := x.frm b o e f t; obtain ⟨sl', e''⟩ := y.frm b _ e' (fun q => f (q.imp (fun q => q.back d e) id)) t; exact ⟨sl', e''⟩, fun k b g => y.tab k b (x.tab k b g), Nat.le_trans x.size y.size⟩
theorem Fo.nil {t : Expr} {body : List Stmt} (hh : C.A.handled = Option.none) : Fo C ρ μ [] t body (.next ρ μ) := fun F s I f hF hm h0 x =>
  for_turn (wpSize (x.fin hh) fun r s₁ ⟨e, r₁, hx⟩ hz => by
    subst e
    obtain ⟨o, e, hp, _⟩ := x.plain
    exact ⟨r₁, .extBut hx (fun o' e' => by rw [e] at e'; cases e'; exact ⟨hp, .inr rfl⟩) hz, F, .same (f.iterX x hx hz hF hm h0)⟩)
theorem Fo.body {P : Pd B} {Ps : List (Pd B)} {t : Expr} {body : List Stmt} {ρ₁ : Rho B} {ob o : Out B} (ha : Asg C ρ μ t P ρ₁) (hb : Ex C ρ₁ μ body ob)
    (hk : ∀ (F : Addr → Prop) (s₂ s₃ : Shared) (I : Addr) (fl : Flow), F I → ¬ Mut C μ I → C.h₀.get? I = none → OutM C F μ s₂.heap ob fl s₃.heap → Pres B (Mut C μ) s₂.heap s₃.heap → I < s₂.heap.objs.size →
      (∀ F' : Addr → Prop, (∀ b, F b → F' b) → (∀ b, F' b → F b ∨ s₂.heap.objs.size ≤ b) → Its F' s₃.heap I Ps) →
      match fl with
      | .next | .cont => codeAny (md B) C.A (.forLoop t (.ref I) body [] C.env) (fun r s' => match r with | .ok f => Rest s₃ s' ∧ Pres B (fun b => Mut C μ b ∨ b = I) s₂.heap s'.heap ∧ OutM C F μ s₂.heap o f s'.heap | .error _ => False) s₃
      | .brk => OutM C F μ s₂.heap o .next s₃.heap
      | .ret v => OutM C F μ s₂.heap o (.ret v) s₃.heap) : Fo C ρ μ (P :: Ps) t body o := fun F s I f hF hm h0 x =>
  for_turn (wpMono (x.next hF) fun r s₁ ⟨v, e, r₁, hs, hv, x₁⟩ => by
    subst e
    obtain ⟨o₀, e₀, hp₀, _⟩ := x.plain
    have f₁ := f.iterX x hs.extBut (Nat.le_of_eq hs.1.symm) hF hm h0
    have p₁ : Pres B (fun b => Mut C μ b ∨ b = I) s.heap s₁.heap := .sameBut hs e₀ hp₀ (.inr rfl)
    refine letOwned x₁ (wpMono (ha F s₁ v f₁ hv) fun _ s₂ ⟨r₂, f₂, p₂⟩ => wpMono (hb F s₂ f₂) fun fl s₃ ⟨r₃, p₃, h₃⟩ => ?_)
    have p₁₂ : Pres B (fun b => Mut C μ b ∨ b = I) s.heap s₂.heap := p₁.trans (p₂.weak fun b q => .inl q)
    obtain ⟨o₁, e₁, _, hp₁⟩ := x₁.plain
    have hI2 := p₂.obj I o₁ e₁ (.inl hm) (.inl hp₁)
    have K := hk F s₂ s₃ I fl hF hm h0 h₃ p₃ (Heap.lt_size hI2) fun F' up new => x₁.keep (fun o e hp => by
        have := p₂.obj I o e (.inl hm) (.inl hp)
        exact p₃.obj I o this (.inl hm) (.inl hp)) ((p₂.trans p₃).weak fun b q => f.mutF q) up fun b q => (new b q).imp id fun q => Nat.le_trans p₂.size q
    have dm : ∀ b, (μ b).isSome = true → (μ b).isSome = true ∨ s.heap.objs.size ≤ b := fun b q => .inl q
    cases fl with
    | next =>
      refine codeAny_mono K fun r s' h => ?_
      cases r with
      | ok fl => exact ⟨((r₁.trans r₂).trans r₃).trans h.1, p₁₂.mutI dm h.2.1, h.2.2.from p₁₂.size⟩
      | error e => exact h
    | cont =>
      refine codeAny_mono K fun r s' h => ?_
      cases r with
      | ok fl => exact ⟨((r₁.trans r₂).trans r₃).trans h.1, p₁₂.mutI dm h.2.1, h.2.2.from p₁₂.size⟩
      | error e => exact h
    | brk => exact ⟨(r₁.trans r₂).trans r₃, p₁₂.trans (p₃.weak fun b q => .inl q), K.from p₁₂.size⟩
    | ret v => exact ⟨(r₁.trans r₂).trans r₃, p₁₂.trans (p₃.weak fun b q => .inl q), K.from p₁₂.size⟩)
theorem Fo.next {P : Pd B} {Ps : List (Pd B)} {t : Expr} {body : List Stmt} {ρ₁ ρ₂ : Rho B} {μ₂ : Mu B} {o : Out B} (ha : Asg C ρ μ t P ρ₁) (hb : Ex C ρ₁ μ body (.next ρ₂ μ₂)) (hr : Fo C ρ₂ μ₂ Ps t body o) : Fo C ρ μ (P :: Ps) t body o :=
  .body ha hb fun F s₂ s₃ I fl hF hm h0 h₃ p₃ hlt hx => by
    cases fl with
    | next =>
      obtain ⟨F', n⟩ := h₃
      refine codeAny_mono (hr F' s₃ I n.frm (n.up I hF) (fun q => ?_) h0 (hx F' n.up n.new)) fun r s' h => ?_
      · rcases q with q | q | q
        · exact hm (.inl q)
        · exact hm (.inr (.inl q))
        · exact (n.dom I q).elim (fun q => hm (.inr (.inr q))) fun q => Nat.not_lt.mpr q hlt
      · cases r with
        | ok fl => exact ⟨h.1, Pres.mutI n.dom (p₃.weak fun b q => .inl q) h.2.1, n.outM p₃.size h.2.2⟩
        | error e => exact h
    | _ => exact h₃.elim
theorem Fo.brk {P : Pd B} {Ps : List (Pd B)} {t : Expr} {body : List Stmt} {ρ₁ ρ₂ : Rho B} {μ₂ : Mu B} (ha : Asg C ρ μ t P ρ₁) (hb : Ex C ρ₁ μ body (.brk ρ₂ μ₂)) : Fo C ρ μ (P :: Ps) t body (.next ρ₂ μ₂) :=
  .body ha hb fun F s₂ s₃ I fl hF hm h0 h₃ p₃ hlt hx => by
    cases fl with
    | brk => exact h₃
    | _ => exact h₃.elim
theorem Fo.ret {P Q : Pd B} {Ps : List (Pd B)} {t : Expr} {body : List Stmt} {ρ₁ : Rho B} (ha : Asg C ρ μ t P ρ₁) (hb : Ex C ρ₁ μ body (.ret Q)) : Fo C ρ μ (P :: Ps) t body (.ret Q) :=
  .body ha hb fun F s₂ s₃ I fl hF hm h0 h₃ p₃ hlt hx => by
    cases fl with
    | ret v => exact h₃
    | _ => exact h₃.elim
theorem Ex1.for {t iter : Expr} {body : List Stmt} {pos : Pos} {Ps : List (Pd B)} {o : Out B} (hi : EvI C ρ μ iter Ps) (h : Fo C ρ μ Ps t body o) (hs : ∀ x, foldedSetIterable iter C.env x = pure x := by intro _; rfl) : Ex1 C ρ μ (.For t iter body [] pos) o := fun F s f =>
  wpAny_For (wpMono (hi F s f) fun x s₁ h₁ => wpMono h₁ fun it s₂ ⟨I, e, p₂, hI, hI', x₂⟩ => by
    subst e
    have hfree : s.heap.get? I = Option.none := Heap.get?_none_of_le hI
    have f₂ : Frm C (fun b => F b ∨ b = I) s₂.heap ρ μ := f.grow p₂.p (fun b q => q.imp id fun q => by rw [q]; exact hfree) (fun b q => .inl q) fun b q => q.elim (fun q => Nat.lt_of_lt_of_le (f.lt b q) p₂.p.size) fun q => by rw [q]; exact hI'
    have hm : ¬ Mut C μ I := fun q => Nat.lt_irrefl _ (Nat.lt_of_lt_of_le (f.lt I (f.mutF q)) hI)
    have h0 : C.h₀.get? I = Option.none := Heap.get?_none_of_le (Nat.le_trans f.pres.size hI)
    refine codeAny_mono (h _ s₂ I f₂ (.inr rfl) hm h0 x₂) fun r s' h => ?_
    cases r with
    | error e => exact h.elim
    | ok fl =>
      refine ⟨p₂.r.trans h.1, ⟨fun b o e f' t' => ?_, fun b o e f' t' => ?_, fun k b g => h.2.1.tab k b (p₂.p.tab k b g), Nat.le_trans p₂.p.size h.2.1.size⟩, ?_⟩
      · exact h.2.1.obj b o (p₂.p.obj b o e (.inl fun q => q) t') (f'.imp (fun n q => q.elim n fun q => by rw [q, hfree] at e; cases e) id) t'
      · obtain ⟨sl, e'⟩ := p₂.p.frm b o e (fun q => q) t'
        obtain ⟨sl', e''⟩ := h.2.1.frm b _ e' (fun q => q.elim f' fun q => by rw [q, hfree] at e; cases e) t'
        exact ⟨sl', e''⟩
      · have n : Nxt C F μ s.heap ρ μ s₂.heap (fun b => F b ∨ b = I) := ⟨fun b q => .inl q, fun b q => q.imp id fun q => by rw [q]; exact hI, f₂, fun b q => .inl q⟩
        exact n.outM p₂.p.size h.2.2) hs
end Mine
open PySem PySem.W PyProof.Rows
set_option Elab.async false
set_option maxRecDepth 100000
set_option linter.unusedVariables false
set_option linter.unusedSimpArgs false
namespace Mine
variable {B : Bs} {C : Cx B} {ρ : Rho B} {μ : Mu B}
noncomputable def clOf (cells : List (Str × Addr)) : List (Str × NameKind) → List (Str × Addr) → List (Str × Addr)
  | [], acc => acc
  | (n, k) :: r, acc => if k == .free then clOf cells r ((n, (cells.lookup n).getD 0) :: acc) else clOf cells r acc
theorem lookup_mem_nodup {α : Type} : ∀ {l : List (Str × α)} {p : Str × α}, (l.map (·.1)).Nodup → p ∈ l → l.lookup p.1 = some p.2
  | (n, k) :: r, p, hn, hp => by
    rw [List.map_cons, List.nodup_cons] at hn
    rcases List.mem_cons.mp hp with rfl | hp
    · simp [List.lookup_cons]
    · have : (p.1 == n) = false := beq_eq_false_iff_ne.mpr fun e => hn.1 (by rw [← e]; exact List.mem_map_of_mem (f := (·.1)) hp)
      rw [List.lookup_cons, this]
      exact lookup_mem_nodup hn.2 hp
theorem mem_clOf {cells : List (Str × Addr)} : ∀ {names : List (Str × NameKind)} {acc : List (Str × Addr)} {p : Str × Addr}, p ∈ clOf cells names acc → p ∈ acc ∨ ((p.1, NameKind.free) ∈ names ∧ p.2 = (cells.lookup p.1).getD 0)
  | [], _, _, h => .inl h
  | (n, k) :: r, acc, p, h => by
    unfold clOf at h
    split at h
    · rename_i hk
      rcases mem_clOf h with h | h
      · rcases List.mem_cons.mp h with rfl | h
        · exact .inr ⟨by rw [← eq_of_beq hk]; exact List.mem_cons_self, rfl⟩
        · exact .inl h
      · exact .inr ⟨List.mem_cons_of_mem _ h.1, h.2⟩
    · rcases mem_clOf h with h | h
      · exact .inl h
      · exact .inr ⟨List.mem_cons_of_mem _ h.1, h.2⟩
theorem closureFor_eq {scope : Scope} {env : Env} (h : ∀ n, (n, NameKind.free) ∈ scope.names → (env.cells.lookup n).isSome = true) : closureFor scope env = pure (clOf env.cells scope.names []) := by
  unfold closureFor
  generalize ([] : List (Str × Addr)) = acc
  generalize scope.names = names at h
  induction names generalizing acc with
  | nil => rfl
  | cons p r ih =>
    obtain ⟨n, k⟩ := p
    have ih' := fun acc => ih acc fun m hm => h m (List.mem_cons_of_mem _ hm)
    simp only [List.forIn_cons, bind_assoc] at ih' ⊢
    unfold clOf
    by_cases hk : k = .free
    · subst hk
      obtain ⟨c, hc⟩ := Option.isSome_iff_exists.mp (h n List.mem_cons_self)
      have e : cellOf env n = pure c := by unfold cellOf; rw [hc]
      simp only [e, hc, pure_bind, Option.getD_some]
      exact ih' _
    · have hk' : (k == NameKind.free) = false := by simpa using hk
      simp only [hk', Bool.false_eq_true, if_false, pure_bind]
      exact ih' _
theorem nodup_clOf {cells : List (Str × Addr)} {I : ∀ x y c, cells.lookup x = some c → cells.lookup y = some c → x = y} : ∀ {names : List (Str × NameKind)} {acc : List (Str × Addr)}, (names.map (·.1)).Nodup → (∀ n, (n, NameKind.free) ∈ names → (cells.lookup n).isSome = true) →
    (∀ p ∈ acc, p.1 ∉ names.map (·.1) ∧ cells.lookup p.1 = some p.2) → (acc.Pairwise fun x y => x.2 ≠ y.2) → (clOf cells names acc).Pairwise fun x y => x.2 ≠ y.2
  | [], _, _, _, _, h => h
  | (n, k) :: r, acc, hn, hf, ha, h => by
    rw [List.map_cons, List.nodup_cons] at hn
    unfold clOf
    split
    · rename_i hk
      obtain ⟨c, hc⟩ := Option.isSome_iff_exists.mp (hf n (by rw [← eq_of_beq hk]; exact List.mem_cons_self))
      refine nodup_clOf (I := I) hn.2 (fun m hm => hf m (List.mem_cons_of_mem _ hm)) (fun p hp => ?_) (List.pairwise_cons.mpr ⟨fun y hy e => ?_, h⟩)
      · rcases List.mem_cons.mp hp with rfl | hp
        · exact ⟨hn.1, by simp [hc]⟩
        · exact ⟨fun q => (ha p hp).1 (List.mem_cons_of_mem _ q), (ha p hp).2⟩
      · have e' : c = y.2 := by simpa [hc] using e
        have := I n y.1 c hc (by rw [e']; exact (ha y hy).2)
        exact (ha y hy).1 (by rw [← this]; exact List.mem_cons_self)
    · exact nodup_clOf (I := I) hn.2 (fun m hm => hf m (List.mem_cons_of_mem _ hm)) (fun p hp => ⟨fun q => (ha p hp).1 (List.mem_cons_of_mem _ q), (ha p hp).2⟩) h
theorem lookup_clOf {cells : List (Str × Addr)} {x : Str} : ∀ {names : List (Str × NameKind)} {acc : List (Str × Addr)}, ((x, NameKind.free) ∈ names ∨ (acc.lookup x).isSome = true) → ((clOf cells names acc).lookup x).isSome = true
  | [], _, h => h.resolve_left List.not_mem_nil
  | (n, k) :: r, acc, h => by
    unfold clOf
    split
    · rename_i hk
      apply lookup_clOf
      by_cases hx : x = n
      · right; subst hx; simp [List.lookup_cons]
      · rcases h with h | h
        · rcases List.mem_cons.mp h with h | h
          · cases h; exact absurd rfl hx
          · exact .inl h
        · right; rw [List.lookup_cons, show (x == n) = false from by simpa using hx]; exact h
    · rename_i hk
      apply lookup_clOf
      rcases h with h | h
      · rcases List.mem_cons.mp h with h | h
        · cases h; exact absurd (by rfl) hk
        · exact .inl h
      · exact .inr h
theorem lookup_cellsFrom_other : ∀ {names : List (Str × NameKind)} {n : Nat} {acc : List (Str × Addr)} {x : Str}, (x, NameKind.cell) ∉ names → (cellsFrom n names acc).lookup x = acc.lookup x
  | [], _, _, _, _ => rfl
  | (y, k) :: r, n, acc, x, h => by
    unfold cellsFrom
    split
    · rename_i hk
      rw [lookup_cellsFrom_other fun q => h (List.mem_cons_of_mem _ q), List.lookup_cons, show (x == y) = false from beq_eq_false_iff_ne.mpr fun e => h (by rw [e, ← eq_of_beq hk]; exact List.mem_cons_self)]
    · exact lookup_cellsFrom_other fun q => h (List.mem_cons_of_mem _ q)
theorem lookup_mapKey {α : Type} (f : Str → α → α) : ∀ (names : List (Str × α)) (x : Str), (names.map fun p => (p.1, f p.1 p.2)).lookup x = (names.lookup x).map (f x)
  | [], _ => rfl
  | (n, k) :: r, x => by
    rw [List.map_cons, List.lookup_cons, List.lookup_cons]
    by_cases hx : x = n
    · subst hx; simp
    · have hb : (x == n) = false := by simpa using hx
      simp only [hb]
      exact lookup_mapKey f r x
theorem lookup_relabel {env : Env} (he : env.scope.kind = .function) {names : List (Str × NameKind)} {x : Str} :
    (names.map fun (n, k) => if (k == NameKind.free && env.scope.kind == .function && env.kindOf n == some .cell) then (n, NameKind.cell) else (n, k)).lookup x = match names.lookup x with | some .free => (if env.kindOf x = some .cell then some .cell else some .free) | r => r := by
  have e : (fun (p : Str × NameKind) => match p with | (n, k) => if (k == NameKind.free && env.scope.kind == .function && env.kindOf n == some .cell) then (n, NameKind.cell) else (n, k)) = fun p => (p.1, (fun (n : Str) (k : NameKind) => if (k == NameKind.free && env.kindOf n == some .cell) then NameKind.cell else k) p.1 p.2) := by
    funext ⟨n, k⟩
    simp only [he]
    by_cases h1 : (k == NameKind.free && env.kindOf n == some NameKind.cell) = true
    · have h1' := h1
      rw [Bool.and_eq_true] at h1'
      simp [h1'.1, h1'.2]
    · rw [if_neg h1]
      rw [if_neg]
      intro q
      apply h1
      simpa using q
  rw [e]
  refine (lookup_mapKey (fun (n : Str) (k : NameKind) => if (k == NameKind.free && env.kindOf n == some .cell) then NameKind.cell else k) names x).trans ?_
  cases h : names.lookup x with
  | none => rfl
  | some k =>
    cases k <;> simp
    split <;> rfl
/-- the frame of a comprehension -/
noncomputable def compEnvX (env : Env) (scope : Scope) (L : Addr) : Env :=
  { scope := relabel scope env, locals := L, globals := env.globals, cells := cellsFrom (L + 1) scope.names (clOf env.cells scope.names []), qual := env.qual, func := none, code := env.code, frame := env.frame, builtins := env.builtins }
noncomputable def compC (C : Cx B) (scope : Scope) (L : Addr) (h₀ : Heap) : Cx B := { A := C.A, env := compEnvX C.env scope L, h₀ := h₀, stor := fun x => scope.names.lookup x == some .cell }
noncomputable def cRho (ρ : Rho B) (scope : Scope) : Rho B := fun x => match scope.names.lookup x with
  | some .free => ρ x
  | _ => none
theorem kindOf_comp {scope : Scope} {L : Addr} {h₀ : Heap} {x : Str} (he : C.env.scope.kind = .function) : (compC C scope L h₀).env.kindOf x = match scope.names.lookup x with | some .free => (if C.env.kindOf x = some .cell then some .cell else some .free) | r => r := lookup_relabel he
theorem Frm.forget {F : Addr → Prop} {h : Heap} {ρ' : Rho B} (f : Frm C F h ρ μ) (hs : ∀ x P, ρ' x = some P → ρ x = some P) : Frm C F h ρ' μ where
  base := f.base
  pres := f.pres
  kind := f.kind
  glob := f.glob
  blt := f.blt
  fl := f.fl
  lt := f.lt
  fresh := f.fresh
  stk := f.stk
  loc := let ⟨m, a, hm⟩ := f.loc; ⟨m, a, fun x P q => hm x P (hs x P q)⟩
  cel := fun x P q => f.cel x P (hs x P q)
  kinds := fun x P q => f.kinds x P (hs x P q)
  own := f.own
  inj := f.inj
  lst := f.lst
/-- the tests of a comprehension -/
inductive Tests (C : Cx B) (ρ : Rho B) (μ : Mu B) : List Expr → Bool → Prop
  | nil : Tests C ρ μ [] true
  | one {c : Expr} {b : Bool} (h : EvT C ρ μ c b) : Tests C ρ μ [c] b
theorem Tests.run {F : Addr → Prop} {s : Shared} {ifs : List Expr} {b : Bool} (x : Tests C ρ μ ifs b) (f : Frm C F s.heap ρ μ) :
    wpAny (md B) C.A (forIn ifs true fun c r => if r = true then do let ok ← isTrue c C.env (eval c C.env); pure (ForInStep.yield ok) else pure (ForInStep.yield r)) (fun v s' => Stp B s s' ∧ v = b) noE s := by
  cases x with
  | nil => exact wpAny_tests_nil ⟨.refl, rfl⟩
  | one h => exact wpAny_tests_one (h F s f)
inductive CompT (C : Cx B) (ρ : Rho B) (t : Expr) (ifs : List Expr) (elt : Expr) : List (Pd B) → List D → Prop
  | nil : CompT C ρ t ifs elt [] []
  | skip {P : Pd B} {Ps : List (Pd B)} {ds : List D} {ρ₁ : Rho B} (ha : Asg C ρ (fun _ => none) t P ρ₁) (hs : ∀ x P, ρ x = some P → ρ₁ x = some P) (ht : Tests C ρ₁ (fun _ => none) ifs false) (r : CompT C ρ t ifs elt Ps ds) : CompT C ρ t ifs elt (P :: Ps) ds
  | cons {P : Pd B} {Ps : List (Pd B)} {d : D} {ds : List D} {ρ₁ : Rho B} (ha : Asg C ρ (fun _ => none) t P ρ₁) (hs : ∀ x P, ρ x = some P → ρ₁ x = some P) (ht : Tests C ρ₁ (fun _ => none) ifs true) (he : Ev C ρ₁ (fun _ => none) elt (pd d)) (r : CompT C ρ t ifs elt Ps ds) : CompT C ρ t ifs elt (P :: Ps) (d :: ds)
theorem comp_turn {elt t iter : Expr} {ifs : List Expr} {scope : Scope} {pos : Pos} {A : Around} {it acc : Value} {env : Env} {R : Result → Shared → Prop} {s : Shared}
    (h : wpAny (md B) A (pyNext it) (fun r s₁ => match r with
      | none => R (.ok .next) s₁
      | some v => wpAny (md B) A (letOwnedTupleGo t it v) (fun _ s₂ => wpAny (md B) A (assign t env v) (fun _ s₂ =>
          wpAny (md B) A (forIn ifs true fun c r => if r = true then do let ok ← isTrue c env (eval c env); pure (ForInStep.yield ok) else pure (ForInStep.yield r)) (fun ok s₃ =>
            if ok = true then wpAny (md B) A (eval elt env) (fun x s₄ => wpAny (md B) A (call (.builtin "list.append") [acc, x]) (fun _ s₅ => codeAny (md B) A (.compLoop (.ListComp elt [⟨t, iter, ifs, 0⟩] scope pos) 0 it acc env) R s₅) noE s₄) noE s₃
            else codeAny (md B) A (.compLoop (.ListComp elt [⟨t, iter, ifs, 0⟩] scope pos) 0 it acc env) R s₃) noE s₂) noE s₂) noE s₁) noE s) :
    codeAny (md B) A (.compLoop (.ListComp elt [⟨t, iter, ifs, 0⟩] scope pos) 0 it acc env) R s := by
  refine codeAny_of_tree ?_
  show wpAny _ A ((compTurn (.ListComp elt [⟨t, iter, ifs, 0⟩] scope pos) 0 it acc env).onRaise (fun x => do noteFrame x env; theTreesLotGoes x)) _ _ s
  refine wpAny_onRaise (wpAny_mono (E := noE) (Q := fun fin s' => match fin with | .done f => R (.ok f) s' | .again c' => c'.quiet = true ∧ codeAny (md B) A c' R s') ?_ (fun _ _ x => x) fun _ _ x => x.elim)
  rw [compTurn_list]
  refine wpAny_bind (wpAny_standAt (wpAny_bind (wpMono h fun r s₁ h₁ => ?_)))
  cases r with
  | none => exact wpAny_pure h₁
  | some v =>
    refine wpAny_bind (wpMono h₁ fun _ s₂ h₂ => wpAny_bind (wpMono h₂ fun _ s₃ h₃ => wpAny_bind (wpMono h₃ fun ok s₄ h₄ => ?_)))
    cases ok with
    | true =>
      simp only [if_true] at h₄ ⊢
      exact wpAny_bind (wpAny_bind (wpMono h₄ fun x s₅ h₅ => wpAny_bind (wpMono h₅ fun _ s₆ h₆ => wpAny_pure (wpAny_pure ⟨rfl, h₆⟩))))
    | false =>
      simp only [Bool.false_eq_true, if_false] at h₄ ⊢
      exact wpAny_bind (wpAny_pure (wpAny_pure ⟨rfl, h₄⟩))
theorem reps_snoc {F : Addr → Prop} {h : Heap} {v : Value} {d : D} (hd : rep F h v d) : ∀ {vs : List Value} {ds : List D}, reps F h vs ds → reps F h (vs ++ [v]) (ds ++ [d])
  | [], [], _ => by simp only [List.nil_append, reps]; exact ⟨hd, trivial⟩
  | _ :: vs, _ :: ds, x => by simp only [List.cons_append, reps] at x ⊢; exact ⟨x.1, reps_snoc hd x.2⟩
  | [], _ :: _, x => by simp [reps] at x
  | _ :: _, [], x => by simp [reps] at x
theorem comp_loop {elt t iter : Expr} {ifs : List Expr} {scope : Scope} {pos : Pos} {I Da : Addr} (hh : C.A.handled = Option.none) {Ps : List (Pd B)} {ds : List D} (x : CompT C ρ t ifs elt Ps ds) :
    ∀ (F : Addr → Prop) (s : Shared) (vs : List Value) (dn : List D), Frm C F s.heap ρ (fun _ => Option.none) → F I → ¬ Mut C (fun _ => Option.none) I → C.h₀.get? I = Option.none → Its F s.heap I Ps →
      F Da → ¬ Mut C (fun _ => Option.none) Da → C.h₀.get? Da = Option.none → IsSeq s.heap "list" Da vs → reps F s.heap vs dn → dn.length + Ps.length ≤ sizeLine →
      codeAny (md B) C.A (.compLoop (.ListComp elt [⟨t, iter, ifs, 0⟩] scope pos) 0 (.ref I) (.ref Da) C.env)
        (fun r s' => match r with | .ok _ => Rest s s' ∧ Frm C F s'.heap ρ (fun _ => Option.none) ∧ ∃ vs', IsSeq s'.heap "list" Da vs' ∧ reps F s'.heap vs' (dn ++ ds) | .error _ => False) s := by
  induction x with
  | nil =>
    intro F s vs dn f hF hm h0 x hD hmD h0D hq hr hz
    refine comp_turn (wpSize (x.fin hh) fun r s₁ ⟨e, r₁, hx⟩ hz' => ?_)
    subst e
    obtain ⟨o, e, hp, _⟩ := x.plain
    have pF : Pres B F s.heap s₁.heap := .extBut hx (fun o' e' => by rw [e] at e'; cases e'; exact ⟨hp, hF⟩) hz'
    refine ⟨r₁, f.iterX x hx hz' hF hm h0, vs, ?_, by rw [List.append_nil]; exact hr.mono pF⟩
    obtain ⟨n, e'⟩ := hq
    exact ⟨n, hx _ _ (x.apart.2.1 _ _ _ ⟨n, e'⟩).symm e'⟩
  | @skip P Ps ds ρ₁ ha hs ht r ih =>
    intro F s vs dn f hF hm h0 x hD hmD h0D hq hr hz
    refine comp_turn (wpMono (x.next hF) fun r s₁ ⟨v, e, r₁, hs₁, hv, x₁⟩ => ?_)
    subst e
    obtain ⟨o, e, hp, _⟩ := x.plain
    have hqI := x.apart.2.1 _ _ _ hq
    have f₁ := f.iterX x hs₁.extBut (Nat.le_of_eq hs₁.1.symm) hF hm h0
    have p₁ : Pres B F s.heap s₁.heap := .sameBut hs₁ e hp hF
    refine letOwned x₁ (wpMono (ha F s₁ v f₁ hv) fun _ s₂ ⟨r₂, f₂, p₂⟩ => wpMono (ht.run f₂) fun ok s₃ ⟨p₃, e₃⟩ => ?_)
    subst e₃
    simp only [Bool.false_eq_true, if_false]
    have q₂ : Pres B F s₁.heap s₂.heap := p₂.weak fun b q => f.mutF q
    have q₃ : Pres B F s₂.heap s₃.heap := p₃.p.any
    have hq₃ : IsSeq s₃.heap "list" Da vs := ((hq.sameBut hs₁ hqI.symm).pres hmD p₂).pres (fun q => q) p₃.p
    have x₃ : Its F s₃.heap I Ps := x₁.keep (fun o e hp => p₃.p.obj _ _ (p₂.obj I o e (.inl hm) (.inl hp)) (.inl fun q => q) (.inl hp)) (q₂.trans q₃) (fun _ q => q) fun _ q => .inl q
    refine codeAny_mono (ih F s₃ vs dn ((f₂.step p₃.p).forget hs) hF hm h0 x₃ hD hmD h0D hq₃ (((hr.mono p₁).mono q₂).mono q₃) (by simp only [List.length_cons] at hz; omega)) fun r s' h => ?_
    cases r with
    | ok _ => exact ⟨((r₁.trans r₂).trans p₃.r).trans h.1, h.2⟩
    | error _ => exact h
  | @cons P Ps d ds ρ₁ ha hs ht he r ih =>
    intro F s vs dn f hF hm h0 x hD hmD h0D hq hr hz
    refine comp_turn (wpMono (x.next hF) fun r s₁ ⟨v, e, r₁, hs₁, hv, x₁⟩ => ?_)
    subst e
    obtain ⟨o, e, hp, _⟩ := x.plain
    have hqI := x.apart.2.1 _ _ _ hq
    have f₁ := f.iterX x hs₁.extBut (Nat.le_of_eq hs₁.1.symm) hF hm h0
    have p₁ : Pres B F s.heap s₁.heap := .sameBut hs₁ e hp hF
    refine letOwned x₁ (wpMono (ha F s₁ v f₁ hv) fun _ s₂ ⟨r₂, f₂, p₂⟩ => wpMono (ht.run f₂) fun ok s₃ ⟨p₃, e₃⟩ => ?_)
    subst e₃
    simp only [if_true]
    refine wpMono (he F s₃ (f₂.step p₃.p)) fun y s₄ ⟨p₄, h₄⟩ => ?_
    have q₂ : Pres B F s₁.heap s₂.heap := p₂.weak fun b q => f.mutF q
    have q₃ : Pres B F s₂.heap s₄.heap := (p₃.trans p₄).p.any
    have hq₄ : IsSeq s₄.heap "list" Da vs := ((hq.sameBut hs₁ hqI.symm).pres hmD p₂).pres (fun q => q) (p₃.trans p₄).p
    have hr₄ : reps F s₄.heap vs dn := ((hr.mono p₁).mono q₂).mono q₃
    have x₄ : Its F s₄.heap I Ps := x₁.keep (fun o e hp => (p₃.trans p₄).p.obj _ _ (p₂.obj I o e (.inl hm) (.inl hp)) (.inl fun q => q) (.inl hp)) (q₂.trans q₃) (fun _ q => q) fun _ q => .inl q
    have hlen := reps_length hr
    refine wpAny_list_append_plain (items := vs.toArray) hq₄ (fun h' hq' hs' => ?_) (by simp only [List.length_cons] at hz; simp; omega)
    have hq₅ : IsSeq h' "list" Da (vs ++ [y]) := let ⟨n, e⟩ := hq'; ⟨n, by rw [e]; simp⟩
    obtain ⟨n₄, e₄⟩ := id hq₄
    have p₅ : Pres B F s₄.heap h' := .sameBut hs' e₄ (plain_seq rfl) hD
    have f₅ : Frm C F h' ρ₁ (fun _ => Option.none) := ((f₂.step p₃.p).step p₄.p).touch hs'.extBut (Nat.le_of_eq hs'.1.symm) hD hmD h0D (fun o' e' => by rw [e₄] at e'; cases e'; exact plain_seq rfl) (fun c v hc => cell_ne_seq hc hq₄)
    have x₅ : Its F h' I Ps := x₄.keep (fun o e hp => (hs'.2 I (x₄.apart.2.1 _ _ _ hq₄)).trans e) p₅ (fun _ q => q) fun _ q => .inl q
    refine codeAny_mono (ih F { s₄ with heap := h' } (vs ++ [y]) (dn ++ [d]) (f₅.forget hs) hF hm h0 x₅ hD hmD h0D hq₅ (reps_snoc (rep.mono p₅ h₄) (hr₄.mono p₅)) (by simp only [List.length_cons, List.length_append, List.length_nil] at hz ⊢; omega)) fun r s' h => ?_
    cases r with
    | ok _ => exact ⟨(((r₁.trans r₂).trans p₃.r).trans p₄.r).trans ⟨h.1.1, h.1.2, h.1.3⟩, h.2.1, by simpa [List.append_assoc] using h.2.2⟩
    | error _ => exact h
/-- what a comprehension leaves: a new list, and its own block of names, still there -/
structure CompEnd (B : Bs) (F : Addr → Prop) (s s' : Shared) (Da L : Addr) (ds : List D) : Prop where
  stp : Stp B s s'
  dD : s.heap.objs.size ≤ Da
  dL : s.heap.objs.size ≤ L
  ns : ∃ m, s'.heap.Ns L m
  val : rep (fun b => F b ∨ b = L) s'.heap (.ref Da) (.lst ds)
/-- each free name of the block is a cell that is filled -/
noncomputable def freeOk (C : Cx B) (ρ : Rho B) (names : List (Str × NameKind)) : Bool := names.all fun p => p.2 != .free || ((ρ p.1).isSome && (C.env.kindOf p.1 == some .cell || C.env.kindOf p.1 == some .free))
/-- what is laid for a comprehension, whatever its loop does -/
theorem comp_set {elt t iter : Expr} {ifs : List Expr} {scope : Scope} {pos epos : Pos} {use : Option (Value → Sem Unit)} {Q : Value → Shared → Prop} {F : Addr → Prop} {s : Shared} {Ps : List (Pd B)}
    (f : Frm C F s.heap ρ μ) (hh : C.A.handled = Option.none) (hi : EvI C ρ μ iter Ps)
    (H : ∀ (s₂ : Shared) (h₄ : Heap) (I Da : Addr), Rest s s₂ → s.heap.objs.size ≤ Da → Da + 1 < h₄.objs.size → s.heap.objs.size ≤ h₄.objs.size → s.heap.objs.size ≤ I →
      Frm (compC C scope (Da + 1) s.heap) (fun b => F b ∨ b = I ∨ b = Da ∨ (Da + 1 ≤ b ∧ b < h₄.objs.size)) h₄ (cRho ρ scope) (fun _ => Option.none) → ¬ Mut (compC C scope (Da + 1) s.heap) (fun _ => Option.none) I → ¬ Mut (compC C scope (Da + 1) s.heap) (fun _ => Option.none) Da →
      Its (fun b => F b ∨ b = I ∨ b = Da ∨ (Da + 1 ≤ b ∧ b < h₄.objs.size)) h₄ I Ps → IsSeq h₄ "list" Da [] →
      codeAny (md B) C.A (.compLoop (.ListComp elt [⟨t, iter, ifs, 0⟩] scope pos) 0 (.ref I) (.ref Da) (compC C scope (Da + 1) s.heap).env) (fun r s' => compPost (md B) C.A noE use Q (.ref Da) (Da + 1) r s') { s₂ with heap := h₄ })
    (hfr : freeOk C ρ scope.names = true) (hk : scope.kind = .function) (hnd : (scope.names.map (·.1)).Nodup)
    (hs : ∀ x, foldedSetIterable iter C.env x = pure x) :
    wpAny (md B) C.A (comprehension (.ListComp elt [⟨t, iter, ifs, 0⟩] scope pos) scope C.env epos (newList []) false (eval iter C.env) use) Q noE s := by
  have hcells : ∀ x, (x, NameKind.free) ∈ scope.names → ∃ P c v, ρ x = some P ∧ C.env.cells.lookup x = some c ∧ s.heap.IsCell c (some v) ∧ P.p F s.heap v := fun x q => by
    have h1 := List.all_eq_true.mp hfr _ q
    simp only [bne_self_eq_false, Bool.false_or, Bool.and_eq_true, Bool.or_eq_true, beq_iff_eq] at h1
    obtain ⟨P, hP⟩ := Option.isSome_iff_exists.mp h1.1
    obtain ⟨c, v, a, b, d⟩ := f.cel x P hP h1.2
    exact ⟨P, c, v, hP, a, b, d⟩
  have hsome : ∀ x, (x, NameKind.free) ∈ scope.names → (C.env.cells.lookup x).isSome = true := fun x q => by obtain ⟨_, c, _, _, h, _⟩ := hcells x q; rw [h]; rfl
  have look : ∀ {x k}, scope.names.lookup x = some k → (x, k) ∈ scope.names := fun h => mem_of_lookup h
  have hclt : ∀ p ∈ clOf C.env.cells scope.names [], p.2 < s.heap.objs.size := fun p hp => by
    rcases mem_clOf hp with h | h
    · cases h
    · obtain ⟨_, c, _, _, hl, ⟨o, e, _⟩, _⟩ := hcells _ h.1
      rw [h.2, hl]
      exact Heap.lt_size e
  refine wpAny_comprehension_free (cl := clOf C.env.cells scope.names []) rfl hs (closureFor_eq hsome) hk (fun x hx q => by rw [lookup_mem_nodup hnd hx, q]) ?_
  refine wpMono (hi F s f) fun x s₁ h₁ => wpMono h₁ fun it s₂ ⟨I, e, p₂, hI, hI', x₂⟩ => ?_
  subst e
  refine wpAny_newList ?_ (by decide)
  simp only [newFunctionEnv, Option.isSome_some, if_true]
  refine wpAny_bind (wpAny_alloc ?_)
  refine wpAny_bind (wpAny_layCells _ (fun name kind cells => ?_) _ _ _ _ ?_)
  · cases kind <;> rfl
  generalize hDa : s₂.heap.objs.size = Da
  have hsz3 : (s₂.heap.push { cls := .type "list", data := .seq [].toArray }).objs.size = Da + 1 := by rw [Heap.size_push, hDa]
  have hg3 : (s₂.heap.push { cls := .type "list", data := .seq [].toArray }).get? Da = some { cls := .type "list", data := .seq [].toArray } := by rw [← hDa]; exact push_get rfl
  have hk3 : ∀ b o, s₂.heap.get? b = some o → (s₂.heap.push { cls := .type "list", data := .seq [].toArray }).get? b = some o := fun b o e => Heap.get?_push_of_some _ e
  simp only [hsz3]
  generalize hh3 : s₂.heap.push { cls := .type "list", data := .seq [].toArray } = h₃ at hsz3 hg3 hk3
  have hsz4 : (h₃.push { cls := .type "dict", data := .dict #[] }).objs.size = Da + 1 + 1 := by rw [Heap.size_push, hsz3]
  have hpc := pushCells_size scope.names (h₃.push { cls := .type "dict", data := .dict #[] })
  have hkeep := pushCells_keeps scope.names (h₃.push { cls := .type "dict", data := .dict #[] })
  have hsle : s.heap.objs.size ≤ Da := by rw [← hDa]; exact p₂.p.size
  have hgL : (h₃.push { cls := .type "dict", data := .dict #[] }).get? (Da + 1) = some { cls := .type "dict", data := .dict #[] } := by rw [← hsz3]; exact push_get rfl
  have hok := cellsFrom_ok2 (clOf C.env.cells scope.names []) scope.names (h₃.push { cls := .type "dict", data := .dict #[] }) (Da + 1 + 1) (clOf C.env.cells scope.names []) ⟨fun n c h => .inl h, nodup_clOf (I := f.inj) hnd hsome (fun p hp => nomatch hp) .nil⟩
    (fun p hp => by rw [hsz4]; exact Nat.lt_of_lt_of_le (hclt p hp) (by omega)) (by rw [hsz4]; exact Nat.le_refl _)
  rw [hsz4] at hok hpc
  rw [hsz4]
  generalize hh4 : pushCells (h₃.push { cls := .type "dict", data := .dict #[] }) scope.names = h₄ at hpc hkeep hok ⊢
  have hk24 : ∀ b o, s₂.heap.get? b = some o → h₄.get? b = some o := fun b o e => hkeep b o (Heap.get?_push_of_some _ (hk3 b o e))
  have p24 : Pres B none' s₂.heap h₄ := .of_keep hk24 (by omega)
  have p04 : Pres B none' s.heap h₄ := p₂.p.trans p24
  refine wpAny_bind (wpAny_pure ?_)
  have hwk : ∀ b, (F b ∨ b = I ∨ b = Da ∨ (Da + 1 ≤ b ∧ b < h₄.objs.size)) → F b ∨ s.heap.objs.size ≤ b := fun b q => by
    rcases q with q | rfl | rfl | q
    · exact .inl q
    · exact .inr hI
    · exact .inr hsle
    · exact .inr (Nat.le_trans hsle (Nat.le_of_succ_le q.1))
  have hwk' : ∀ b, (F b ∨ b = I ∨ b = Da ∨ (Da + 1 ≤ b ∧ b < h₄.objs.size)) → F b ∨ s.heap.get? b = Option.none := fun b q => (hwk b q).imp id fun q => Heap.get?_none_of_le q
  have hcf : ∀ x, scope.names.lookup x = some .free → ∃ P c v, ρ x = some P ∧ (cellsFrom (Da + 1 + 1) scope.names (clOf C.env.cells scope.names [])).lookup x = some c ∧ s.heap.IsCell c (some v) ∧ P.p F s.heap v := fun x q => by
    obtain ⟨P, c, v, h1, h2, h3, h4⟩ := hcells x (look q)
    refine ⟨P, c, v, h1, ?_, h3, h4⟩
    rw [lookup_cellsFrom_other fun r => by have := lookup_mem_nodup hnd r; simp only at this; rw [q] at this; cases this]
    obtain ⟨c', hc'⟩ := Option.isSome_iff_exists.mp (lookup_clOf (cells := C.env.cells) (acc := []) (.inl (look q)))
    rcases mem_clOf (mem_of_lookup hc') with r | r
    · cases r
    · have r2 : c' = (C.env.cells.lookup x).getD 0 := r.2
      rw [hc', r2, h2]; rfl
  have hcr : ∀ x P, cRho ρ scope x = some P → scope.names.lookup x = some .free ∧ ρ x = some P := fun x P q => by
    unfold cRho at q
    split at q
    · rename_i h; exact ⟨h, q⟩
    · cases q
  have hkd : ∀ x, scope.names.lookup x = some .free → (compC C scope (Da + 1) s.heap).env.kindOf x = some .cell ∨ (compC C scope (Da + 1) s.heap).env.kindOf x = some .free := fun x q => by
    rw [kindOf_comp f.kind, q]
    simp only
    split
    · exact .inl rfl
    · exact .inr rfl
  have f₄ : Frm (compC C scope (Da + 1) s.heap) (fun b => F b ∨ b = I ∨ b = Da ∨ (Da + 1 ≤ b ∧ b < h₄.objs.size)) h₄ (cRho ρ scope) (fun _ => Option.none) :=
    { base := f.h
      pres := p04
      kind := hk
      glob := f.glob
      blt := f.blt
      fl := .inr (.inr (.inr ⟨Nat.le_refl _, by show Da + 1 < _; omega⟩))
      lt := fun b q => by
        rcases q with q | rfl | rfl | q
        · exact Nat.lt_of_lt_of_le (f.lt b q) p04.size
        · exact Nat.lt_of_lt_of_le hI' p24.size
        · exact Nat.lt_of_lt_of_le (Nat.lt_trans (Nat.lt_succ_self _) (Nat.lt_succ_self _)) hpc
        · exact q.2
      fresh := Heap.get?_none_of_le (Nat.le_succ_of_le hsle)
      stk := by
        obtain ⟨l, e, hl⟩ := f.stack
        exact ⟨l, e, fun env he => let ⟨hk', L, hf, hn, o, es, n, ho, hd⟩ := hl env he; ⟨hk', L, hf, hn, .inr ⟨o, es, n, ho, hd⟩⟩⟩
      loc := ⟨fun _ => Option.none, ⟨_, #[], 0, hkeep _ _ hgL, rfl, fun _ he => by simp at he, fun _ => rfl⟩, fun x P q hl => by
        rcases hkd x (hcr x P q).1 with h | h <;> rw [h] at hl <;> cases hl⟩
      cel := fun x P q _ => by
        obtain ⟨h1, h2⟩ := hcr x P q
        obtain ⟨P', c, v, g1, g2, g3, g4⟩ := hcf x h1
        rw [h2] at g1; cases g1
        exact ⟨c, v, g2, cell_pres g3 (fun q => q) p04, P.mono (P.weak g4 hwk') p04.any⟩
      kinds := fun x P q => .inr (hkd x (hcr x P q).1)
      own := fun x hst _ => by
        have hl : scope.names.lookup x = some .cell := eq_of_beq hst
        obtain ⟨c, hc, hle⟩ := lookup_cellsFrom scope.names (Da + 1 + 1) (clOf C.env.cells scope.names []) x hl
        have hcell : h₄.IsCell c none := by
          rcases hok.empty x c (mem_of_lookup hc) with q | q
          · exact absurd (hclt _ q) (Nat.not_lt.mpr (Nat.le_trans (by omega) hle))
          · exact q.1
        obtain ⟨o, e, _⟩ := id hcell
        exact ⟨c, none, hc, .inr (.inr (.inr ⟨Nat.le_of_succ_le hle, Heap.lt_size e⟩)), Nat.le_trans (Nat.le_trans hsle (Nat.le_trans (Nat.le_succ _) (Nat.le_succ _))) hle, hcell⟩
      inj := fun x y c hx hy => name_of_addr hok.apart (mem_of_lookup hx) (mem_of_lookup hy)
      lst := fun _ _ q => nomatch q }
  have hmI : ¬ Mut (compC C scope (Da + 1) s.heap) (fun _ => Option.none) I := fun q => by
    have hlt : I < Da := by rw [← hDa]; exact hI'
    rcases q with q | ⟨x, h1, h2, h3⟩ | q
    · exact Nat.lt_irrefl _ (Nat.lt_of_lt_of_le hlt (Nat.le_trans (Nat.le_succ _) (Nat.le_of_eq q.symm)))
    · obtain ⟨c, hc, hle⟩ := lookup_cellsFrom scope.names (Da + 1 + 1) (clOf C.env.cells scope.names []) x (eq_of_beq h1)
      have : c = I := Option.some.inj (hc.symm.trans h3)
      exact Nat.lt_irrefl _ (Nat.lt_of_lt_of_le hlt (Nat.le_trans (by omega) (this ▸ hle)))
    · cases q
  have hmD : ¬ Mut (compC C scope (Da + 1) s.heap) (fun _ => Option.none) Da := fun q => by
    rcases q with q | ⟨x, h1, h2, h3⟩ | q
    · exact Nat.lt_irrefl _ (Nat.lt_of_lt_of_le (Nat.lt_succ_self Da) (Nat.le_of_eq q.symm))
    · obtain ⟨c, hc, hle⟩ := lookup_cellsFrom scope.names (Da + 1 + 1) (clOf C.env.cells scope.names []) x (eq_of_beq h1)
      have : c = Da := Option.some.inj (hc.symm.trans h3)
      exact Nat.lt_irrefl _ (Nat.lt_of_lt_of_le (Nat.lt_succ_self Da) (Nat.le_trans (by omega) (this ▸ hle)))
    · cases q
  have x₄ : Its (fun b => F b ∨ b = I ∨ b = Da ∨ (Da + 1 ≤ b ∧ b < h₄.objs.size)) h₄ I Ps := x₂.keep (fun o e _ => hk24 _ _ e) p24.any (fun b q => q.imp id .inl) fun b q => by
    rcases q with q | q | rfl | q
    · exact .inl (.inl q)
    · exact .inl (.inr q)
    · exact .inr (Nat.le_of_eq hDa)
    · exact .inr (Nat.le_trans (Nat.le_of_eq hDa) (Nat.le_of_succ_le q.1))
  have hl := H s₂ h₄ I Da p₂.r hsle hpc p04.size hI f₄ hmI hmD x₄ ⟨0, hkeep _ _ (Heap.get?_push_of_some _ hg3)⟩
  refine wpAny_pure (codeAny_compStart_list hl ?_)
  have again : wpAny (md B) C.A (pyIter (.ref I)) (fun it' s' => it' = .ref I ∧ s' = { s₂ with heap := h₄ }) noE { s₂ with heap := h₄ } := by
    cases x₄ with
    | list l i vs it _ _ _ => exact wpAny_pyIter_listiter it ⟨rfl, rfl⟩
    | tuple l i vs it _ _ _ => exact wpAny_pyIter_tupleiter it ⟨rfl, rfl⟩
    | range x step n it _ => exact wpAny_pyIter_rangeiter it ⟨rfl, rfl⟩
  refine wpMono again fun it' s' ⟨e1, e2⟩ => ?_
  subst e1; subst e2
  exact hl
theorem comp_run {elt t iter : Expr} {ifs : List Expr} {scope : Scope} {pos epos : Pos} {use : Option (Value → Sem Unit)} {Q : Value → Shared → Prop} {F : Addr → Prop} {s : Shared} {Ps : List (Pd B)} {ds : List D}
    (f : Frm C F s.heap ρ μ) (hh : C.A.handled = Option.none) (hi : EvI C ρ μ iter Ps)
    (hx : ∀ L h₀, CompT (compC C scope L h₀) (cRho ρ scope) t ifs elt Ps ds)
    (hQ : ∀ s' Da L, CompEnd B F s s' Da L ds → compPost (md B) C.A noE use Q (.ref Da) L (.ok .next) s')
    (hfr : freeOk C ρ scope.names = true) (hk : scope.kind = .function) (hnd : (scope.names.map (·.1)).Nodup) (hz : Ps.length ≤ sizeLine)
    (hs : ∀ x, foldedSetIterable iter C.env x = pure x) :
    wpAny (md B) C.A (comprehension (.ListComp elt [⟨t, iter, ifs, 0⟩] scope pos) scope C.env epos (newList []) false (eval iter C.env) use) Q noE s := by
  refine comp_set f hh hi (fun s₂ h₄ I Da rr hsle hsz h04 hI f₄ hmI hmD x₄ hq₀ => ?_) hfr hk hnd hs
  have loop := comp_loop (C := compC C scope (Da + 1) s.heap) (iter := iter) (scope := scope) (pos := pos) (I := I) (Da := Da) hh (hx (Da + 1) s.heap) _ { s₂ with heap := h₄ } [] [] f₄ (.inr (.inl rfl)) hmI (Heap.get?_none_of_le hI) x₄ (.inr (.inr (.inl rfl))) hmD (Heap.get?_none_of_le hsle)
    hq₀ (by simp [reps]) (by simpa using hz)
  have fin : ∀ r s', (match r with | .ok _ => Rest { s₂ with heap := h₄ } s' ∧ Frm (compC C scope (Da + 1) s.heap) (fun b => F b ∨ b = I ∨ b = Da ∨ (Da + 1 ≤ b ∧ b < h₄.objs.size)) s'.heap (cRho ρ scope) (fun _ => Option.none) ∧ ∃ vs', IsSeq s'.heap "list" Da vs' ∧ reps (fun b => F b ∨ b = I ∨ b = Da ∨ (Da + 1 ≤ b ∧ b < h₄.objs.size)) s'.heap vs' ([] ++ ds) | .error _ => False : Prop) →
      compPost (md B) C.A noE use Q (.ref Da) (Da + 1) r s' := fun r s' h => by
    cases r with
    | error e => exact h.elim
    | ok fl =>
      obtain ⟨r', f', vs', hq, hr⟩ := h
      have := hQ s' Da (Da + 1) ⟨⟨f'.pres, rr.trans ⟨r'.1, r'.2, r'.3⟩⟩, hsle, Nat.le_succ_of_le hsle, let ⟨m, hn, _⟩ := f'.loc; ⟨m, hn⟩, by
        simp only [rep]
        refine ⟨Da, vs', rfl, fun q => ?_, hq, ?_⟩
        · rcases q with q | q
          · exact Nat.lt_irrefl _ (Nat.lt_of_lt_of_le (f.lt _ q) hsle)
          · exact Nat.lt_irrefl _ (Nat.lt_of_lt_of_le (Nat.lt_succ_self Da) (Nat.le_of_eq q.symm))
        · exact reps.weak (fun b q => .inl (q.imp id fun q => .inr (.inr (by rw [q]; exact ⟨Nat.le_refl _, hsz⟩)))) hr⟩
      cases use <;> exact this
  exact codeAny_mono loop fin
end Mine
open PySem PySem.W PyProof.Rows
set_option Elab.async false
set_option maxRecDepth 100000
set_option linter.unusedVariables false
set_option linter.unusedSimpArgs false
namespace Mine
variable {B : Bs} {C : Cx B} {ρ : Rho B} {μ : Mu B}
theorem Pres.thenS {F : Addr → Prop} {h h₁ h' : Heap} {L : Addr} {o : Obj} (x : Pres B F h h₁) (hs : Heap.SameBut L h₁ h') (hL : h.get? L = none) (e : h₁.get? L = some o) (hp : plainObj o) : Pres B F h h' :=
  ⟨fun b o' e' f t => (hs.2 b fun q => by rw [q, hL] at e'; cases e').trans (x.obj b o' e' f t), fun b o' e' f t => by obtain ⟨sl, e''⟩ := x.frm b o' e' f t; exact ⟨sl, (hs.2 b fun q => by rw [q, hL] at e'; cases e').trans e''⟩, fun k b g => (Pres.sameBut (B := B) (F := fun b => b = L) hs e hp rfl).tab k b (x.tab k b g), Nat.le_trans x.size (Nat.le_of_eq hs.1.symm)⟩
theorem Ev.comp {elt t iter : Expr} {ifs : List Expr} {scope : Scope} {pos : Pos} {Ps : List (Pd B)} {ds : List D} (hh : C.A.handled = Option.none) (hi : EvI C ρ μ iter Ps) (hx : ∀ L h₀, CompT (compC C scope L h₀) (cRho ρ scope) t ifs elt Ps ds)
    (hz : Ps.length ≤ sizeLine) (hfr : freeOk C ρ scope.names = true := by rfl) (hk : scope.kind = .function := by rfl) (hnd : (scope.names.map (·.1)).Nodup := by decide)
    (hs : ∀ x, foldedSetIterable iter C.env x = pure x := by intro _; rfl) : Ev C ρ μ (.ListComp elt [⟨t, iter, ifs, 0⟩] scope pos) (pd (.lst ds)) := fun F s f => by
  show wpAny (md B) C.A (comprehension (.ListComp elt [⟨t, iter, ifs, 0⟩] scope pos) scope C.env _ (newList []) false (eval iter C.env) Option.none) _ _ _
  refine comp_run f hh hi hx (fun s' Da L ce => ?_) hfr hk hnd hz hs
  obtain ⟨m, hn⟩ := ce.ns
  refine ⟨m, hn, fun h' hs' => ?_⟩
  obtain ⟨o, es, ep, e, hd, _⟩ := id hn
  refine ⟨⟨ce.stp.p.thenS hs' (Heap.get?_none_of_le ce.dL) e (plain_dict hd), ce.stp.r.1, ce.stp.r.2, ce.stp.r.3⟩, ?_⟩
  exact rep.weak (fun b q => .inl (.inl q)) (rep.mono (Pres.sameBut (B := B) hs' e (plain_dict hd) (.inr rfl)) ce.val)
theorem Ex1.assignC {elt t iter : Expr} {ifs : List Expr} {scope : Scope} {pos py spos : Pos} {y : Str} {Ps : List (Pd B)} {ds : List D} (hh : C.A.handled = Option.none) (hi : EvI C ρ μ iter Ps) (hx : ∀ L h₀, CompT (compC C scope L h₀) (cRho ρ scope) t ifs elt Ps ds)
    (hz : Ps.length ≤ sizeLine) (hy : Sto C y) (hsw : swapsWith (.ListComp elt [⟨t, iter, ifs, 0⟩] scope pos) (some (.Name y py)) spos.line C.env = pure true := by rfl)
    (hfr : freeOk C ρ scope.names = true := by rfl) (hk : scope.kind = .function := by rfl) (hnd : (scope.names.map (·.1)).Nodup := by decide)
    (hs : ∀ x, foldedSetIterable iter C.env x = pure x := by intro _; rfl) : Ex1 C ρ μ (.Assign [.Name y py] (.ListComp elt [⟨t, iter, ifs, 0⟩] scope pos) spos) (.next (upd ρ y (pd (.lst ds))) μ) := fun F s f => by
  rw [exec_Assign_Name_used _ _ _ _ hsw]
  refine wpAny_bind (wpAny_standAt (wpAny_bind ?_))
  show wpAny (md B) C.A (do let _ ← comprehension (.ListComp elt [⟨t, iter, ifs, 0⟩] scope pos) scope C.env _ (newList []) false (eval iter C.env) (some (PySem.assign (Expr.Name y py) C.env))) _ _ _
  refine wpAny_bind (comp_run f hh hi hx (fun s' Da L ce => ?_) hfr hk hnd hz hs)
  obtain ⟨m, hn⟩ := ce.ns
  obtain ⟨o, es, ep, e, hd, rr⟩ := id hn
  have f' : Frm C (fun b => F b ∨ b = L) s'.heap ρ μ := f.grow ce.stp.p (fun b q => q.imp id fun q => by rw [q]; exact Heap.get?_none_of_le ce.dL) (fun b q => .inl q) fun b q => q.elim (fun q => Nat.lt_of_lt_of_le (f.lt b q) ce.stp.p.size) fun q => by rw [q]; exact Heap.lt_size e
  have hm : ¬ Mut C μ L := fun q => Nat.lt_irrefl _ (Nat.lt_of_lt_of_le (f.lt L (f.mutF q)) ce.dL)
  show wpAny (md B) C.A (do standAt py; bindName C.env y (.ref Da)) _ _ _
  refine wpAny_bind (wpAny_standAt (wpAny_bindName (wpMono (st_any (P := pd (.lst ds)) f' ce.val hy) fun _ s'' ⟨r₂, f₂, p₂⟩ => ?_)))
  obtain ⟨sl₂, e₂⟩ := p₂.data e hm fun vs q => by rw [hd] at q; cases q
  have hn₂ : s''.heap.Ns L m := ⟨_, es, ep, e₂, hd, rr⟩
  refine ⟨m, hn₂, fun h' hs' => ?_⟩
  have n : Nxt C F μ s.heap (upd ρ y (pd (.lst ds))) μ h' (fun b => F b ∨ b = L) := ⟨fun b q => .inl q, fun b q => q.imp id fun q => by rw [q]; exact ce.dL, ?_, fun b q => .inl q⟩
  · refine wpAny_pure (wpAny_pure ⟨⟨r₂.1.trans ce.stp.r.1, r₂.2.trans ce.stp.r.2, r₂.3.trans ce.stp.r.3⟩, ?_, _, n⟩)
    exact (ce.stp.p.any.trans p₂).thenS hs' (Heap.get?_none_of_le ce.dL) e₂ (plain_dict hd)
  exact f₂.touch hs'.extBut (Nat.le_of_eq hs'.1.symm) (.inr rfl) hm (Heap.get?_none_of_le (Nat.le_trans f.pres.size ce.dL)) (fun o' e' => by rw [e₂] at e'; cases e'; exact plain_dict hd) (fun c v hc => (ns_ne_cell hn₂ hc).symm)
theorem upd_sub {x : Str} {Q : Pd B} (h : ρ x = none) : ∀ y P, ρ y = some P → upd ρ x Q y = some P := fun y P hy => by
  unfold upd
  by_cases hyx : y = x
  · subst hyx; rw [h] at hy; cases hy
  · rw [if_neg hyx]; exact hy
/-- a comprehension over one name, item by item -/
theorem CompT.map {α : Type} {x : Str} {p : Pos} {elt : Expr} (l : List α) (f : α → Pd B) (g : α → D) (hk : Sto C x) (h : ∀ a ∈ l, Ev C (upd ρ x (f a)) (fun _ => none) elt (pd (g a))) (hx : ρ x = none := by rfl) : CompT C ρ (.Name x p) [] elt (l.map f) (l.map g) := by
  induction l with
  | nil => exact .nil
  | cons a l ih => exact .cons (.name hk) (upd_sub hx) .nil (h a List.mem_cons_self) (ih fun b hb => h b (List.mem_cons_of_mem _ hb))
theorem CompT.filter {α : Type} {x : Str} {p : Pos} {elt c : Expr} (l : List α) (f : α → Pd B) (g : α → D) (q : α → Bool) (hk : Sto C x) (hq : ∀ a ∈ l, EvT C (upd ρ x (f a)) (fun _ => none) c (q a)) (h : ∀ a ∈ l, q a = true → Ev C (upd ρ x (f a)) (fun _ => none) elt (pd (g a))) (hx : ρ x = none := by rfl) :
    CompT C ρ (.Name x p) [c] elt (l.map f) ((l.filter q).map g) := by
  induction l with
  | nil => exact .nil
  | cons a l ih =>
    have ih' := ih (fun b hb => hq b (List.mem_cons_of_mem _ hb)) fun b hb => h b (List.mem_cons_of_mem _ hb)
    cases hqa : q a with
    | true =>
      rw [List.filter_cons_of_pos hqa]
      exact .cons (.name hk) (upd_sub hx) (.one (hqa ▸ hq a List.mem_cons_self)) (h a List.mem_cons_self hqa) ih'
    | false =>
      rw [List.filter_cons_of_neg (by rw [hqa]; decide)]
      exact .skip (.name hk) (upd_sub hx) (.one (hqa ▸ hq a List.mem_cons_self)) ih'
end Mine
open PySem PySem.W PyProof.Rows
set_option Elab.async false
set_option maxRecDepth 100000
set_option linter.unusedVariables false
set_option linter.unusedSimpArgs false
namespace Mine
variable {B : Bs} {C : Cx B} {ρ : Rho B} {μ : Mu B}
theorem all2_one {F : Addr → Prop} {h : Heap} {P : Pd B} {Ps : List (Pd B)} {vs : List Value} (x : all2 F h (P :: Ps) vs) : ∃ v ws, vs = v :: ws ∧ P.p F h v ∧ all2 F h Ps ws := by
  cases vs with
  | nil => exact False.elim x
  | cons v ws => exact ⟨v, ws, rfl, x.1, x.2⟩
theorem all2_non {F : Addr → Prop} {h : Heap} {vs : List Value} (x : all2 (B := B) F h [] vs) : vs = [] := by
  cases vs with
  | nil => rfl
  | cons v ws => exact False.elim x
theorem one_arg {F : Addr → Prop} {h : Heap} {P : Pd B} {vs : List Value} (x : all2 F h [P] vs) : ∃ v, vs = [v] ∧ P.p F h v := by
  obtain ⟨v, ws, rfl, h1, h2⟩ := all2_one x
  rw [all2_non h2]; exact ⟨v, rfl, h1⟩
theorem two_args {F : Addr → Prop} {h : Heap} {P Q : Pd B} {vs : List Value} (x : all2 F h [P, Q] vs) : ∃ v w, vs = [v, w] ∧ P.p F h v ∧ Q.p F h w := by
  obtain ⟨v, ws, rfl, h1, h2⟩ := all2_one x
  obtain ⟨w, rfl, h3⟩ := one_arg h2
  exact ⟨v, w, rfl, h1, h3⟩
theorem three_args {F : Addr → Prop} {h : Heap} {P Q R : Pd B} {vs : List Value} (x : all2 F h [P, Q, R] vs) : ∃ v w u, vs = [v, w, u] ∧ P.p F h v ∧ Q.p F h w ∧ R.p F h u := by
  obtain ⟨v, ws, rfl, h1, h2⟩ := all2_one x
  obtain ⟨w, u, rfl, h3, h4⟩ := two_args h2
  exact ⟨v, w, u, rfl, h1, h3, h4⟩
theorem fn_lenS {H : Option Value → Prop} (l : List Nat) (hl : l.length < 2 ^ 62) : Fn B 0 (.builtin "len") [ptx l] (pint l.length) H where
  kept := trivial
  call := fun F A s vs hr hh hst hb hlt hv => by
    obtain ⟨v, rfl, hv'⟩ := one_arg hv
    clear hv; have hv := hv'; clear hv'
    obtain ⟨t, rfl⟩ := str_of hv
    refine len_str (by rw [mkS_length]; omega) ⟨.toks, ?_⟩
    rw [mkS_length]; exact of_int
theorem fn_chr {H : Option Value → Prop} (i : Int) (h0 : 0 ≤ i) (h1 : i ≤ 0x10FFFF) : Fn B 0 (.builtin "chr") [pint i] (ptx [i.toNat]) H where
  kept := trivial
  call := fun F A s vs hr hh hst hb hlt hv => by
    obtain ⟨v, rfl, hv'⟩ := one_arg hv
    clear hv; have hv := hv'; clear hv'
    obtain ⟨t, rfl⟩ := int_of hv
    exact PySem.P.chr_of_int (by simp; omega) ⟨.toks, of_str⟩
theorem fn_range1 {H : Option Value → Prop} (n : Int) : Fn B 0 (.type "range") [pint n] (prange 0 n 1) H where
  kept := trivial
  call := fun F A s vs hr hh hst hb hlt hv => by
    obtain ⟨v, rfl, hv'⟩ := one_arg hv
    clear hv; have hv := hv'; clear hv'
    obtain ⟨t, rfl⟩ := int_of hv
    exact call_range_1 ⟨⟨.push _, ⟨rfl, rfl, rfl⟩⟩, _, _, _, _, rfl, fun q => Nat.lt_irrefl _ (hlt _ q), IsRange.new ..⟩
theorem fn_range3 {H : Option Value → Prop} (a n c : Int) (hc : c ≠ 0) (hs : c.natAbs < 2 ^ 64) : Fn B 0 (.type "range") [pint a, pint n, pint c] (prange a n c) H where
  kept := trivial
  call := fun F A s vs hr hh hst hb hlt hv => by
    obtain ⟨v, w, x, rfl, hv', hw, hx⟩ := three_args hv
    clear hv; have hv := hv'; clear hv'
    obtain ⟨t, rfl⟩ := int_of hv
    obtain ⟨u, rfl⟩ := int_of hw
    obtain ⟨y, rfl⟩ := int_of hx
    refine call_range_3 hc ⟨⟨.push _, ⟨rfl, rfl, rfl⟩⟩, _, _, _, _, rfl, fun q => Nat.lt_irrefl _ (hlt _ q), IsRange.new ..⟩ (.inl ?_)
    unfold Builtin.divisionGoesByPylong
    have : (if (c == 0) = true then 0 else c.natAbs.log2 / 30 + 1) ≤ 300 := by
      split
      · omega
      · have h2 : c.natAbs.log2 < 64 := (Nat.log2_lt (by omega)).mpr hs
        omega
    simp only [Bool.and_eq_false_iff, decide_eq_false_iff_not]
    left; omega
theorem Ev.isNone {e : Expr} {k pos p2} {P : Pd B} {b : Bool} (h : Ev C ρ μ e P) (hb : ∀ F h v, P.p F h v → (v == Value.none) = b) : Ev C ρ μ (.Compare e [.Is] [.Constant .none k p2] pos) (pbool b) :=
  Ev.cmp h Ev.none (fun F s a c f ha hc => by rw [none_of hc]; exact is_none ⟨.refl, by rw [hb _ _ _ ha]; exact of_bool⟩) (by with_unfolding_all rfl)
theorem Ev.isNotNone {e : Expr} {k pos p2} {P : Pd B} {b : Bool} (h : Ev C ρ μ e P) (hb : ∀ F h v, P.p F h v → (!(v == Value.none)) = b) : Ev C ρ μ (.Compare e [.IsNot] [.Constant .none k p2] pos) (pbool b) :=
  Ev.cmp h Ev.none (fun F s a c f ha hc => by rw [none_of hc]; exact isNot_none ⟨.refl, by rw [hb _ _ _ ha]; exact of_bool⟩) (by with_unfolding_all rfl)
noncomputable def D.isNone : D → Bool
  | .none => true
  | _ => false
theorem rep_isNone {d : D} : ∀ F h v, (pd (B := B) d).p F h v → (v == Value.none) = d.isNone := fun F h v x => by
  cases d with
  | none => have := none_of x; subst this; rfl
  | bool b => have := bool_of x; subst this; rfl
  | int i => obtain ⟨t, rfl⟩ := int_of x; rfl
  | str i => obtain ⟨t, rfl⟩ := str_of x; rfl
  | tup l => obtain ⟨a, vs, rfl, _⟩ := tup_of x; rfl
  | lst l => obtain ⟨a, vs, rfl, _⟩ := lst_of x; rfl
theorem Ev.isN {e : Expr} {k pos p2} {d : D} (h : Ev C ρ μ e (pd d)) : Ev C ρ μ (.Compare e [.Is] [.Constant .none k p2] pos) (pbool d.isNone) := Ev.isNone h rep_isNone
theorem Ev.isNN {e : Expr} {k pos p2} {d : D} (h : Ev C ρ μ e (pd d)) : Ev C ρ μ (.Compare e [.IsNot] [.Constant .none k p2] pos) (pbool (!d.isNone)) := Ev.isNotNone h fun F h v x => by rw [rep_isNone F h v x]
theorem ints_of {F : Addr → Prop} {h : Heap} : ∀ {vs : List Value} {ns : List Int}, reps F h vs (ns.map .int) → IntsAre vs ns
  | [], [], _ => .nil
  | v :: vs, n :: ns, x => by
    simp only [List.map_cons, reps, rep] at x
    obtain ⟨⟨t, rfl⟩, r⟩ := x
    exact .cons _ _ (ints_of r)
  | [], _ :: _, x => by simp [reps] at x
  | _ :: _, [], x => by simp [reps] at x
theorem Ev.inInts {l r : Expr} {pos : Pos} {i : Int} {ns : List Int} (hl : Ev C ρ μ l (pint i)) (hr : Ev C ρ μ r (pd (.tup (ns.map .int)))) (hm : behindInMarks .In r = false := by with_unfolding_all rfl) : Ev C ρ μ (.Compare l [.In] [r] pos) (pbool (ns.any (· == i))) :=
  Ev.cmp hl hr (fun F s a b _ ha hb => by
    obtain ⟨t, rfl⟩ := int_of ha
    obtain ⟨c, vs, rfl, hF, hq, hr⟩ := tup_of hb
    exact in_tuple_ints hq.isTup (by simpa using ints_of hr) ⟨.refl, of_bool⟩) hm
theorem Ev.inS {l r : Expr} {pos : Pos} {c : Nat} {x : List Nat} (hl : Ev C ρ μ l (ptx [c])) (hr : Ev C ρ μ r (ptx x)) (hm : behindInMarks .In r = false := by with_unfolding_all rfl) : Ev C ρ μ (.Compare l [.In] [r] pos) (pbool (decide (c ∈ x))) :=
  Ev.cmp hl hr (fun F s a b _ ha hb => by
    obtain ⟨t, rfl⟩ := str_of ha
    obtain ⟨u, rfl⟩ := str_of hb
    refine in_str ⟨.refl, ?_⟩
    have := PySem.StrLaws.found_one (mkS x) c
    rw [show (mkS [c]) = (⟨#[c]⟩ : Str) from rfl, this]
    exact of_bool) hm
/-- lists end to end -/
theorem reps_append {F : Addr → Prop} {h : Heap} : ∀ {vs ws : List Value} {ds es : List D}, reps F h vs ds → reps F h ws es → reps F h (vs ++ ws) (ds ++ es)
  | [], _, [], _, _, y => y
  | _ :: vs, ws, _ :: ds, es, x, y => by simp only [List.cons_append, reps] at x ⊢; exact ⟨x.1, reps_append x.2 y⟩
  | [], _, _ :: _, _, x, _ => by simp [reps] at x
  | _ :: _, _, [], _, x, _ => by simp [reps] at x
theorem Ev.catL {l r : Expr} {pos : Pos} {x y : List D} (hl : Ev C ρ μ l (pd (.lst x))) (hr : Ev C ρ μ r (pd (.lst y))) (hz : x.length + y.length ≤ sizeLine) : Ev C ρ μ (.BinOp l .Add r pos) (pd (.lst (x ++ y))) :=
  Ev.bin hl hr fun F s a b f ha hb => by
    obtain ⟨c, vs, rfl, hF, ⟨n, hq⟩, hr⟩ := lst_of ha
    obtain ⟨d, ws, rfl, hF', ⟨n2, hq'⟩, hr'⟩ := lst_of hb
    have e1 := reps_length hr
    have e2 := reps_length hr'
    refine concat_meets ⟨_, hq, rfl⟩ ⟨_, hq', rfl⟩ noFill_list_add seq_list_add PySem.F.slot_list_add PySem.F.entry_list_add (PySem.F.args_list_add_2 _ _) (list_addW c d vs.toArray ws.toArray n n2 Option.none Option.none #[] #[] (by simp; omega)) ⟨hq, hq', ⟨.push _, ⟨rfl, rfl, rfl⟩⟩, ?_⟩
    simp only [pd, rep]
    refine ⟨_, vs ++ ws, rfl, fun q => Nat.lt_irrefl _ (f.lt _ q), ⟨0, ?_⟩, reps_append (hr.mono (Pres.push (B := B) _)) (hr'.mono (Pres.push (B := B) _))⟩
    rw [push_get rfl]; simp
end Mine
open PySem PySem.W PyProof.Rows
set_option Elab.async false
set_option maxRecDepth 100000
set_option linter.unusedVariables false
set_option linter.unusedSimpArgs false
namespace Mine
variable {B : Bs} {C : Cx B} {ρ : Rho B} {μ : Mu B}
/-- l[lo:hi] with bounds that are not negative -/
noncomputable def slc {α : Type} (l : List α) (lo hi : Option Int) : List α := (l.take (hi.elim l.length Int.toNat)).drop (lo.elim 0 Int.toNat)
noncomputable def nn : Option Int → Prop
  | none => True
  | some i => 0 ≤ i
theorem clipAt_nn {n : Nat} {i : Int} (h : 0 ≤ i) : clipAt n i = min i.toNat n := by
  unfold clipAt
  rw [if_neg (Int.not_lt.mpr h)]
  obtain ⟨k, rfl⟩ := Int.eq_ofNat_of_zero_le h
  rcases Nat.le_total k n with q | q
  · rw [Int.min_eq_left (Int.ofNat_le.mpr q), Int.max_eq_right (Int.natCast_nonneg k), Int.toNat_natCast, Nat.min_eq_left q]
  · rw [Int.min_eq_right (Int.ofNat_le.mpr q), Int.max_eq_right (Int.natCast_nonneg n), Int.toNat_natCast, Int.toNat_natCast, Nat.min_eq_right q]
theorem run_eq {α : Type} (l : List α) (a b : Nat) : (l.drop (min a l.length)).take (min b l.length - min a l.length) = (l.take b).drop a := by
  rw [List.drop_take]
  rcases Nat.le_total a l.length with h | h
  · rw [Nat.min_eq_left h]
    rcases Nat.le_total b l.length with h' | h'
    · rw [Nat.min_eq_left h']
    · rw [Nat.min_eq_right h', List.take_of_length_le (by simp), List.take_of_length_le (by simp; omega)]
  · rw [Nat.min_eq_right h, List.drop_of_length_le (Nat.le_refl _), List.drop_of_length_le h]
    simp
theorem pick_slc {α : Type} (l : List α) (lo hi : Option Int) (h1 : nn lo) (h2 : nn hi) : (l.drop (lo.elim 0 (clipAt l.length))).take (hi.elim l.length (clipAt l.length) - lo.elim 0 (clipAt l.length)) = slc l lo hi := by
  have e1 : lo.elim 0 (clipAt l.length) = min (lo.elim 0 Int.toNat) l.length := by
    cases lo with
    | none => simp
    | some i => exact clipAt_nn h1
  have e2 : hi.elim l.length (clipAt l.length) = min (hi.elim l.length Int.toNat) l.length := by
    cases hi with
    | none => simp
    | some i => exact clipAt_nn h2
  rw [e1, e2]
  exact run_eq l _ _
theorem strSlice_eq (n : Nat) (lo hi : Option Int) : PySem.Builtin.Str.strSliceIndices lo hi 1 n = (List.range (hi.elim n (clipAt n) - lo.elim 0 (clipAt n))).map (lo.elim 0 (clipAt n) + ·) := by
  have e : PySem.Builtin.Str.strSliceIndices lo hi 1 n = sliceRange (((lo.elim 0 (clipAt n) : Nat) : Int)) (((hi.elim n (clipAt n) : Nat) : Int)) 1 := by
    cases lo <;> cases hi <;> simp [PySem.Builtin.Str.strSliceIndices, clipAt_cast]
  rw [e, sliceRange_one]
theorem clip_le (n : Nat) (i : Int) : clipAt n i ≤ n := Int.toNat_le.mpr (Int.max_le.mpr ⟨Int.natCast_nonneg _, Int.min_le_right _ _⟩)
theorem sl1 {a b L : Nat} (h : b ≤ L) : min (b - a) (L - a) = b - a := Nat.min_eq_left (Nat.sub_le_sub_right h a)
theorem sl2 {a b L : Nat} (h : min b L - a = L) (h0 : ¬ L = 0) : a = 0 := by omega
theorem sl3 {a b L : Nat} (h : min b L - a = L) : L ≤ b := by omega
theorem sl4 (a b L : Nat) : min b L - a ≤ L := Nat.le_trans (Nat.sub_le _ _) (Nat.min_le_right _ _)
theorem slice_str (l : List Nat) (t : Tok) (lo hi : Option (Int × Tok)) (h1 : nn (lo.map (·.1))) (h2 : nn (hi.map (·.1))) {Q : Value → Shared → Prop} {s : Shared} (hl : l.length ≤ sizeLine)
    (h : ∀ t' k, Q (.str (mkS (slc l (lo.map (·.1)) (hi.map (·.1)))) t') { s with toks := k }) : (sliceMade (mkS l) t lo hi none).post Q s := by
  have hp : slicePicked (mkS l) lo hi none = (List.range ((hi.map (·.1)).elim l.length (clipAt l.length) - (lo.map (·.1)).elim 0 (clipAt l.length))).map ((lo.map (·.1)).elim 0 (clipAt l.length) + ·) := by
    unfold slicePicked
    rw [mkS_length]
    exact strSlice_eq _ _ _
  have hv : (slicePicked (mkS l) lo hi none).filterMap ((mkS l).cps[·]?) = slc l (lo.map (·.1)) (hi.map (·.1)) := by
    rw [hp]
    refine (pick_run (mkS l).cps _ _).trans ?_
    exact pick_slc l _ _ h1 h2
  unfold sliceMade
  split
  · rename_i hc
    simp only [Bool.and_eq_true] at hc
    have hlen : (slc l (lo.map (·.1)) (hi.map (·.1))).length = l.length := by
      have := eq_of_beq hc.2
      rw [mkS_length] at this
      have e : (slicePicked (mkS l) lo hi none).length = (slc l (lo.map (·.1)) (hi.map (·.1))).length := by
        rw [← pick_slc l _ _ h1 h2, hp]
        simp only [List.length_map, List.length_range, List.length_take, List.length_drop]
        have b1 : ∀ n (i : Option Int), i.elim n (clipAt n) ≤ n := fun n i => by cases i with | none => exact Nat.le_refl _ | some i => exact clip_le n i
        exact (sl1 (b1 l.length (hi.map (·.1)))).symm
      exact e.symm.trans this
    have hsub : slc l (lo.map (·.1)) (hi.map (·.1)) = l := by
      unfold slc at hlen ⊢
      rw [List.length_drop, List.length_take] at hlen
      by_cases h0 : l.length = 0
      · have : l = [] := List.eq_nil_of_length_eq_zero h0
        subst this; simp
      · have a0 : (lo.map (·.1)).elim 0 Int.toNat = 0 := sl2 hlen h0
        rw [a0, List.drop_zero, List.take_of_length_le (sl3 hlen)]
    have := h t s.toks
    rw [hsub] at this
    exact this
  · rw [hv]
    refine ⟨?_, h _ _⟩
    show (mkS _).length ≤ sizeLine
    rw [mkS_length]
    refine Nat.le_trans ?_ hl
    unfold slc
    rw [List.length_drop, List.length_take]
    exact sl4 _ _ _
/-- a bound of a slice -/
noncomputable def EvP {B : Bs} (C : Cx B) (ρ : Rho B) (μ : Mu B) : Option Expr → Option Int → Prop
  | none, none => True
  | some e, some i => Ev C ρ μ e (pint i)
  | _, _ => False
theorem EvP.run {x : Option Expr} {v : Option Int} {F : Addr → Prop} {s : Shared} (h : EvP C ρ μ x v) (f : Frm C F s.heap ρ μ) :
    wpAny (md B) C.A (evalPart x C.env) (fun r s' => Stp B s s' ∧ ∃ p : Option (Int × Tok), r = partValue p ∧ p.map (·.1) = v) noE s := by
  cases x with
  | none => cases v with
    | none => exact wpAny_pure ⟨.refl, none, rfl, rfl⟩
    | some i => exact h.elim
  | some e => cases v with
    | none => exact h.elim
    | some i =>
      show wpAny (md B) C.A (eval e C.env) _ _ _
      exact wpMono (h F s f) fun v s₁ ⟨p, hv⟩ => by obtain ⟨t, rfl⟩ := int_of hv; exact ⟨p, some (i, t), rfl, rfl⟩
theorem Ev.slS {value : Expr} {lo hi : Option Expr} {a b : Option Int} {p pos : Pos} {l : List Nat} (hv : Ev C ρ μ value (ptx l)) (ha : EvP C ρ μ lo a) (hb : EvP C ρ μ hi b) (h1 : nn a) (h2 : nn b) (hl : l.length ≤ sizeLine)
    (ht : ∀ o r, letTemporaryGo value o r = pure () := by intro _ _; rfl) : Ev C ρ μ (.Subscript value (.Slice lo hi Option.none p) pos) (ptx (slc l a b)) := fun F s f =>
  wpAny_Subscript_str_slice (wpMono (hv F s f) fun o s₁ ⟨p₁, h₁⟩ => wpMono (ha.run (f.step p₁.p)) fun vl s₂ ⟨p₂, pl, e₂, m₂⟩ => wpMono (hb.run ((f.step p₁.p).step p₂.p)) fun vu s₃ ⟨p₃, pu, e₃, m₃⟩ => by
    obtain ⟨t, rfl⟩ := str_of h₁
    refine ⟨_, t, pl, pu, rfl, e₂, e₃, slice_str l t pl pu (by rw [m₂]; exact h1) (by rw [m₃]; exact h2) hl fun t' k => ⟨((p₁.trans p₂).trans p₃).trans ⟨.push _, ⟨rfl, rfl, rfl⟩⟩, ?_⟩⟩
    rw [m₂, m₃]; exact of_str) ht
theorem reps_take {F : Addr → Prop} {h : Heap} : ∀ {vs : List Value} {ds : List D} (n : Nat), reps F h vs ds → reps F h (vs.take n) (ds.take n)
  | _, _, 0, _ => by simp [reps]
  | v :: vs, d :: ds, n + 1, x => by simp only [reps, List.take_succ_cons] at x ⊢; exact ⟨x.1, reps_take n x.2⟩
  | [], [], n + 1, _ => by simp [reps]
  | [], _ :: _, _ + 1, x => by simp [reps] at x
  | _ :: _, [], _ + 1, x => by simp [reps] at x
theorem reps_drop {F : Addr → Prop} {h : Heap} : ∀ {vs : List Value} {ds : List D} (n : Nat), reps F h vs ds → reps F h (vs.drop n) (ds.drop n)
  | _, _, 0, x => by simpa using x
  | v :: vs, d :: ds, n + 1, x => by simp only [reps, List.drop_succ_cons] at x ⊢; exact reps_drop n x.2
  | [], [], n + 1, _ => by simp [reps]
  | [], _ :: _, _ + 1, x => by simp [reps] at x
  | _ :: _, [], _ + 1, x => by simp [reps] at x
theorem reps_slc {F : Addr → Prop} {h : Heap} {vs : List Value} {ds : List D} {a b : Option Int} (x : reps F h vs ds) : reps F h (slc vs a b) (slc ds a b) := by
  unfold slc
  rw [reps_length x]
  exact reps_drop _ (reps_take _ x)
end Mine
open PySem PySem.W PyProof.Rows
set_option Elab.async false
set_option maxRecDepth 100000
set_option linter.unusedVariables false
set_option linter.unusedSimpArgs false
namespace Mine
variable {B : Bs} {C : Cx B} {ρ : Rho B} {μ : Mu B}
/-- names, written as a list -/
noncomputable def al (l : List (String × Pd B)) : Rho B := fun x => match l with
  | [] => none
  | (y, P) :: r => if x = Str.ofString y then some P else al r x
noncomputable def AllIn (ρ : Rho B) : List (String × Pd B) → Prop
  | [] => True
  | (y, P) :: r => ρ (Str.ofString y) = some P ∧ AllIn ρ r
theorem AllIn.sub : ∀ {l : List (String × Pd B)}, AllIn ρ l → ∀ x P, al l x = some P → ρ x = some P
  | [], _, _, _, h => by simp [al] at h
  | (y, Q) :: r, a, x, P, h => by
    unfold al at h
    by_cases hx : x = Str.ofString y
    · rw [if_pos hx] at h; cases h; rw [hx]; exact a.1
    · rw [if_neg hx] at h; exact AllIn.sub a.2 x P h
theorem Ev.wk {l : List (String × Pd B)} {e : Expr} {P : Pd B} (a : AllIn ρ l) (h : Ev C (al l) μ e P) : Ev C ρ μ e P := fun F s f => h F s (f.forget a.sub)
theorem EvT.wk {l : List (String × Pd B)} {e : Expr} {b : Bool} (a : AllIn ρ l) (h : EvT C (al l) μ e b) : EvT C ρ μ e b := fun F s f => h F s (f.forget a.sub)
theorem Ex.wk {l : List (String × Pd B)} {sts : List Stmt} {o : Out B} (a : AllIn ρ l) (h : Ex C (al l) μ sts o) : Ex C ρ μ sts o := fun F s f => h F s (f.forget a.sub)
theorem Ex1.wk {l : List (String × Pd B)} {st : Stmt} {o : Out B} (a : AllIn ρ l) (h : Ex1 C (al l) μ st o) : Ex1 C ρ μ st o := fun F s f => h F s (f.forget a.sub)
theorem Wh.wk {l : List (String × Pd B)} {t : Expr} {body : List Stmt} {o : Out B} (a : AllIn ρ l) (h : Wh C (al l) μ t body o) : Wh C ρ μ t body o := fun F s f => h F s (f.forget a.sub)
theorem Fo.wk {l : List (String × Pd B)} {t : Expr} {Ps : List (Pd B)} {body : List Stmt} {o : Out B} (a : AllIn ρ l) (h : Fo C (al l) μ Ps t body o) : Fo C ρ μ Ps t body o := fun F s I f => h F s I (f.forget a.sub)
/-- what is kept of the names behind a block -/
inductive OutSub : Out B → Out B → Prop
  | next {l : List (String × Pd B)} {ρ : Rho B} {μ : Mu B} (a : AllIn ρ l) : OutSub (.next ρ μ) (.next (al l) μ)
  | brk {l : List (String × Pd B)} {ρ : Rho B} {μ : Mu B} (a : AllIn ρ l) : OutSub (.brk ρ μ) (.brk (al l) μ)
  | cont {l : List (String × Pd B)} {ρ : Rho B} {μ : Mu B} (a : AllIn ρ l) : OutSub (.cont ρ μ) (.cont (al l) μ)
theorem OutSub.out {o o' : Out B} (x : OutSub o o') {F : Addr → Prop} {h h' : Heap} {fl : Flow} (y : OutM C F μ h o fl h') : OutM C F μ h o' fl h' := by
  cases x with
  | next a => cases fl with
    | next => obtain ⟨F', n⟩ := y; exact ⟨F', n.up, n.new, n.frm.forget a.sub, n.dom⟩
    | _ => exact y.elim
  | brk a => cases fl with
    | brk => obtain ⟨F', n⟩ := y; exact ⟨F', n.up, n.new, n.frm.forget a.sub, n.dom⟩
    | _ => exact y.elim
  | cont a => cases fl with
    | cont => obtain ⟨F', n⟩ := y; exact ⟨F', n.up, n.new, n.frm.forget a.sub, n.dom⟩
    | _ => exact y.elim
theorem Ex.to {sts : List Stmt} {o o' : Out B} (h : Ex C ρ μ sts o) (x : OutSub o o') : Ex C ρ μ sts o' := fun F s f => wpMono (h F s f) fun fl s' ⟨r, p, y⟩ => ⟨r, p, x.out y⟩
theorem Ex1.to {st : Stmt} {o o' : Out B} (h : Ex1 C ρ μ st o) (x : OutSub o o') : Ex1 C ρ μ st o' := fun F s f => wpMono (h F s f) fun fl s' ⟨r, p, y⟩ => ⟨r, p, x.out y⟩
theorem Wh.to {t : Expr} {body : List Stmt} {o o' : Out B} (h : Wh C ρ μ t body o) (x : OutSub o o') : Wh C ρ μ t body o' := fun F s f => codeAny_mono (h F s f) fun r s' y => by
  cases r with
  | ok fl => exact ⟨y.1, y.2.1, x.out y.2.2⟩
  | error e => exact y
theorem Fo.to {t : Expr} {Ps : List (Pd B)} {body : List Stmt} {o o' : Out B} (h : Fo C ρ μ Ps t body o) (x : OutSub o o') : Fo C ρ μ Ps t body o' := fun F s I f a b c d => codeAny_mono (h F s I f a b c d) fun r s' y => by
  cases r with
  | ok fl => exact ⟨y.1, y.2.1, x.out y.2.2⟩
  | error e => exact y
/-- x += e -/
theorem Ex1.aug {x : Str} {pos' pos : Pos} {op : Operator} {e : Expr} {P Q R : Pd B} (hx : ρ x = some P) (he : Ev C ρ μ e Q) (hk : Sto C x)
    (h : ∀ F s a b, Frm C F s.heap ρ μ → P.p F s.heap a → Q.p F s.heap b → wpAny (md B) C.A (inplaceOp op a b) (fun v s' => Stp B s s' ∧ R.p F s'.heap v) noE s)
    (hd : (x == ("__debug__" : Str)) = false := by decide) (hc : (x == ("__classdict__" : Str)) = false := by decide) : Ex1 C ρ μ (.AugAssign (.Name x pos') op e pos) (.next (upd ρ x R) μ) := fun F s f => by
  have hn : wpAny (md B) C.A (loadName C.env x) (fun v s' => s' = s ∧ P.p F s'.heap v) noE s := by
    rcases f.kinds x P hx with k | k | k
    · obtain ⟨m, hn, hm⟩ := f.loc
      obtain ⟨v, hv, hp⟩ := hm x P hx k
      exact wpAny_loadName_local f.kind k hn hv ⟨rfl, hp⟩
    · obtain ⟨c, v, hl, hv, hp⟩ := f.cel x P hx (.inl k)
      exact wpAny_loadName_cell f.kind k hl hv ⟨rfl, hp⟩
    · obtain ⟨c, v, hl, hv, hp⟩ := f.cel x P hx (.inr k)
      exact wpAny_loadName_free f.kind k hl hv ⟨rfl, hp⟩ hc
  refine wpAny_AugAssign_Name (wpMono hn fun a s₁ ⟨e₁, h₁⟩ => ?_)
  subst e₁
  refine wpMono (he F s₁ f) fun b s₂ ⟨p₂, h₂⟩ => wpMono (h F s₂ a b (f.step p₂.p) (P.mono h₁ p₂.p.any) h₂) fun v s₃ ⟨p₃, h₃⟩ => ?_
  exact wpMono (st_any ((f.step p₂.p).step p₃.p) h₃ hk) fun _ s₄ ⟨r₄, h₄, p₄⟩ => ⟨(p₂.r.trans p₃.r).trans r₄, ((p₂.p.trans p₃.p).any).trans p₄, F, .same h₄⟩
theorem Ex1.augI {x : Str} {pos' pos : Pos} {e : Expr} {i j : Int} (hx : ρ x = some (pint i)) (he : Ev C ρ μ e (pint j)) (hk : Sto C x) (hd : (x == ("__debug__" : Str)) = false := by decide) (hc : (x == ("__classdict__" : Str)) = false := by decide) :
    Ex1 C ρ μ (.AugAssign (.Name x pos') .Add e pos) (.next (upd ρ x (pint (i + j))) μ) := Ex1.aug hx he hk (fun F s a b f ha hb => by obtain ⟨t, rfl⟩ := int_of ha; obtain ⟨u, rfl⟩ := int_of hb; exact iadd_int ⟨.toks, of_int⟩) hd hc
end Mine
open PySem PySem.W PyProof.Rows
set_option Elab.async false
set_option maxRecDepth 100000
set_option linter.unusedVariables false
set_option linter.unusedSimpArgs false
namespace Mine
variable {B : Bs} {C : Cx B} {ρ : Rho B} {μ : Mu B}
noncomputable def AsgL {B : Bs} (C : Cx B) (ρ : Rho B) (μ : Mu B) (ts : List (Value → Sem Unit)) (Ps : List (Pd B)) (ρ' : Rho B) : Prop :=
  ∀ F s vs, Frm C F s.heap ρ μ → all2 F s.heap Ps vs → wpAny (md B) C.A (assignInOrder ts vs) (fun _ s' => Rest s s' ∧ Frm C F s'.heap ρ' μ ∧ Pres B (Mut C μ) s.heap s'.heap) noE s
theorem AsgL.nil : AsgL C ρ μ [] [] ρ := fun F s vs f h => by
  rw [all2_non h]
  exact wpAny_pure ⟨.refl, f, .refl⟩
theorem AsgL.cons {t : Expr} {ts : List (Value → Sem Unit)} {P : Pd B} {Ps : List (Pd B)} {ρ₁ ρ' : Rho B} (h : Asg C ρ μ t P ρ₁) (h' : AsgL C ρ₁ μ ts Ps ρ') : AsgL C ρ μ (assign t C.env :: ts) (P :: Ps) ρ' := fun F s vs f hv => by
  obtain ⟨v, vs, rfl, hv1, hv2⟩ := all2_one hv
  · replace hv := And.intro hv1 hv2
    refine wpAny_assignInOrder_more (wpMono (h F s v f hv.1) fun _ s₁ ⟨r₁, f₁, p₁⟩ => ?_)
    exact wpMono (h' F s₁ vs f₁ (hv.2.mono (p₁.weak fun b q => f.mutF q))) fun _ s₂ ⟨r₂, f₂, p₂⟩ => ⟨r₁.trans r₂, f₂, p₁.trans p₂⟩
theorem AsgL.bind {x : Str} {ts : List (Value → Sem Unit)} {P : Pd B} {Ps : List (Pd B)} {ρ' : Rho B} (hk : Sto C x) (h' : AsgL C (upd ρ x P) μ ts Ps ρ') : AsgL C ρ μ ((fun v => bindName C.env x v) :: ts) (P :: Ps) ρ' := fun F s vs f hv => by
  obtain ⟨v, vs, rfl, hv1, hv2⟩ := all2_one hv
  · replace hv := And.intro hv1 hv2
    refine wpAny_assignInOrder_more (wpAny_bindName (wpMono (st_any f hv.1 hk) fun _ s₁ ⟨r₁, f₁, p₁⟩ => ?_))
    exact wpMono (h' F s₁ vs f₁ (hv.2.mono (p₁.weak fun b q => f.mutF q))) fun _ s₂ ⟨r₂, f₂, p₂⟩ => ⟨r₁.trans r₂, f₂, p₁.trans p₂⟩
theorem unpack_tup {F : Addr → Prop} {s : Shared} {A : Around} {v : Value} {ds : List D} {n : Nat} (hh : A.handled = none) (f : Frm C F s.heap ρ μ) (hv : (pd (B := B) (.tup ds)).p F s.heap v) (hn : ds.length = n) :
    wpAny (md B) A (unpackItems v n none) (fun vs s' => Stp B s s' ∧ all2 (B := B) F s'.heap (ds.map pd) vs) noE s := by
  obtain ⟨a, vs, rfl, hF, hq, hr⟩ := tup_of hv
  have e : n = vs.toArray.size := by rw [List.size_toArray, reps_length hr, hn]
  rw [e]
  refine wpSize (wpAny_unpackItems_tuple (Q := fun l s' => l = vs ∧ Rest s s' ∧ Heap.ExtBut s.heap.objs.size s.heap s'.heap) hh (seq_isTuple hq) fun h' hx => ⟨rfl, ⟨rfl, rfl, rfl⟩, hx⟩) fun l s' ⟨e, r, hx⟩ hz => ?_
  subst e
  have p : Pres B none' s.heap s'.heap := .extBut hx (fun o e => by rw [Heap.get?_none_of_le (Nat.le_refl _)] at e; cases e) hz
  exact ⟨⟨p, r⟩, all2.pds.mpr (hr.mono p.any)⟩
theorem Asg.tuple {elts : List Expr} {k : Nat} {pos : Pos} {ds : List D} {ρ' : Rho B} (hh : C.A.handled = none) (h : AsgL C ρ μ ((assignEach elts C.env).map (·.2)) (ds.map pd) ρ')
    (hl : (assignEach elts C.env).length = ds.length := by rfl) (hs : (assignEach elts C.env).findIdx? (·.1) = none := by rfl) : Asg C ρ μ (.Tuple elts k pos) (pd (.tup ds)) ρ' := fun F s v f hv => by
  show wpAny (md B) C.A (do standAt pos; unpack v (assignEach elts C.env)) _ _ _
  refine wpAny_bind (wpAny_standAt ?_)
  unfold unpack
  rw [hs]
  refine wpAny_bind (wpAny_holding (wpMono (unpack_tup hh f hv hl.symm) fun vs s₁ ⟨p₁, h₁⟩ => ?_))
  exact wpMono (h F s₁ vs (f.step p₁.p) h₁) fun _ s₂ ⟨r₂, f₂, p₂⟩ => ⟨p₁.r.trans r₂, f₂, p₁.p.any.trans p₂⟩
theorem Ex1.assignT {elts : List Expr} {k : Nat} {tpos pos : Pos} {value : Expr} {P : Pd B} {ρ' : Rho B} (hv : Ev C ρ μ value P) (h : Asg C ρ μ (.Tuple elts k tpos) P ρ')
    (hs : swapsWithSole [.Tuple elts k tpos] value pos.line C.env = pure false := by rfl) (hw : swappedStores [.Tuple elts k tpos] value C.env = pure none := by rfl) : Ex1 C ρ μ (.Assign [.Tuple elts k tpos] value pos) (.next ρ' μ) := fun F s f =>
  Assign_Tuple (wpMono (hv F s f) fun v s₁ ⟨p₁, h₁⟩ => wpMono (h F s₁ v (f.step p₁.p) h₁) fun _ s₂ ⟨r₂, f₂, p₂⟩ => ⟨p₁.r.trans r₂, p₁.p.any.trans p₂, F, .same f₂⟩) hs hw
/-- x, y = a, b where the stores go from behind -/
theorem Ex1.assignSw {elts : List Expr} {k : Nat} {tpos pos : Pos} {value : Expr} {ds : List D} {names : List Str} {ρ' : Rho B} (hh : C.A.handled = none) (hv : Ev C ρ μ value (pd (.tup ds))) (h : AsgL C ρ μ (names.reverse.map fun n => bindName C.env n) (ds.reverse.map pd) ρ')
    (hl : ds.length = names.length := by rfl)
    (hs : swapsWithSole [.Tuple elts k tpos] value pos.line C.env = pure false := by rfl) (hw : swappedStores [.Tuple elts k tpos] value C.env = pure (some names) := by rfl) : Ex1 C ρ μ (.Assign [.Tuple elts k tpos] value pos) (.next ρ' μ) := fun F s f => by
  rw [exec_Assign_arm]
  refine wpAny_bind (wpAny_standAt ?_)
  rw [hs]
  refine wpAny_bind (wpAny_pure ?_)
  rw [if_neg (by decide)]
  refine wpAny_bind (wpMono (hv F s f) fun v s₁ ⟨p₁, h₁⟩ => ?_)
  rw [hw]
  refine wpAny_bind (wpAny_pure ?_)
  unfold assignStores
  refine wpAny_bind (wpAny_rule (wpAny_bind (wpMono (unpack_tup hh (f.step p₁.p) h₁ hl) fun vs s₂ ⟨p₂, h₂⟩ => ?_)))
  have h₂' : all2 (B := B) F s₂.heap (ds.reverse.map pd) vs.reverse := by
    rw [all2.pds] at h₂ ⊢
    have : ∀ (vs : List Value) (ds : List D), reps F s₂.heap vs ds → reps F s₂.heap vs.reverse ds.reverse := by
      intro vs
      induction vs with
      | nil => intro ds h; cases ds with
        | nil => simp [reps]
        | cons _ _ => simp [reps] at h
      | cons v vs ih => intro ds h; cases ds with
        | nil => simp [reps] at h
        | cons d ds => simp only [reps] at h; simp only [List.reverse_cons]; exact reps_append (ih ds h.2) (by simp only [reps]; exact ⟨h.1, trivial⟩)
    exact this vs ds h₂
  exact wpAny_bind (wpMono (h F s₂ vs.reverse ((f.step p₁.p).step p₂.p) h₂') fun _ s₃ ⟨r₃, f₃, p₃⟩ => wpAny_pure ⟨(p₁.r.trans p₂.r).trans r₃, ((p₁.p.trans p₂.p).any).trans p₃, F, .same f₃⟩)
/-- and, or, not as values -/
theorem Ev.not {e : Expr} {pos : Pos} {b : Bool} (h : Ev C ρ μ e (pbool b)) : Ev C ρ μ (.UnaryOp .Not e pos) (pbool (!b)) := fun F s f =>
  wpAny_UnaryOp (wpMono (h F s f) fun v s₁ ⟨p₁, h₁⟩ => not_of (by rw [bool_of h₁]; exact truthy_b ⟨p₁, of_bool⟩))
theorem Ev.and2 {x y : Expr} {pos : Pos} {a : Bool} {b : Bool} (hx : Ev C ρ μ x (pbool a)) (hy : a = true → Ev C ρ μ y (pbool b)) : Ev C ρ μ (.BoolOp .And [x, y] pos) (pbool (a && b)) := fun F s f =>
  wpAny_And2 (wpMono (hx F s f) fun v s₁ ⟨p₁, h₁⟩ => by
    rw [bool_of h₁]
    refine truthy_b ?_
    cases a with
    | true => exact wpMono (hy rfl F s₁ (f.step p₁.p)) fun v s₂ ⟨p₂, h₂⟩ => ⟨p₁.trans p₂, by simpa using h₂⟩
    | false => exact ⟨p₁, of_bool⟩)
theorem Ev.or2 {x y : Expr} {pos : Pos} {a : Bool} {b : Bool} (hx : Ev C ρ μ x (pbool a)) (hy : a = false → Ev C ρ μ y (pbool b)) : Ev C ρ μ (.BoolOp .Or [x, y] pos) (pbool (a || b)) := fun F s f =>
  wpAny_Or2 (wpMono (hx F s f) fun v s₁ ⟨p₁, h₁⟩ => by
    rw [bool_of h₁]
    refine truthy_b ?_
    cases a with
    | false => exact wpMono (hy rfl F s₁ (f.step p₁.p)) fun v s₂ ⟨p₂, h₂⟩ => ⟨p₁.trans p₂, by simpa using h₂⟩
    | true => exact ⟨p₁, of_bool⟩)
end Mine
open PySem PySem.W PyProof.Rows
set_option Elab.async false
set_option maxRecDepth 100000
set_option linter.unusedVariables false
set_option linter.unusedSimpArgs false
namespace Mine
variable {B : Bs} {C : Cx B} {ρ : Rho B} {μ : Mu B}
/-- an owned list is changed -/
theorem Frm.setL {F : Addr → Prop} {h h' : Heap} {a : Addr} {Ps Ps' : List (Pd B)} {vs' : List Value} (f : Frm C F h ρ μ) (ha : μ a = some Ps) (hs : Heap.SameBut a h h') (hq : IsSeq h' "list" a vs') (hv : all2 F h Ps' vs') : Frm C F h' ρ (updM μ a Ps') ∧ Pres B (Mut C μ) h h' := by
  obtain ⟨hF, h0, vs, hq0, _⟩ := f.lst a Ps ha
  obtain ⟨n, e⟩ := id hq0
  have hm : Mut C μ a := .inr (.inr (by rw [ha]; rfl))
  have pM : Pres B (Mut C μ) h h' := .sameBut hs e (plain_seq rfl) hm
  obtain ⟨pF, p0⟩ := f.presL hs e (plain_seq rfl) hF (Heap.get?_none_of_le h0)
  obtain ⟨m, hn, hm'⟩ := f.loc
  refine ⟨{ base := f.base, pres := p0, kind := f.kind, glob := f.glob, blt := f.blt, fl := f.fl, lt := fun b q => Nat.lt_of_lt_of_le (f.lt b q) (Nat.le_of_eq hs.1.symm), fresh := f.fresh, stk := f.stk, loc := ⟨m, hn.sameBut hs (ns_ne_seq hn hq0).symm, fun x P q k => let ⟨v, a, b⟩ := hm' x P q k; ⟨v, a, P.mono b pF⟩⟩, cel := ?_, kinds := f.kinds, own := ?_, inj := f.inj, lst := ?_ }, pM⟩
  · intro x P q k
    obtain ⟨c, v, hl, hc, hp⟩ := f.cel x P q k
    exact ⟨c, v, hl, cell_sameBut hc hs (cell_ne_seq hc hq0).symm, P.mono hp pF⟩
  · intro x q k
    obtain ⟨c, v, hl, hF, h0, hc⟩ := f.own x q k
    exact ⟨c, v, hl, hF, h0, cell_sameBut hc hs (cell_ne_seq hc hq0).symm⟩
  · intro b Qs q
    unfold updM at q
    by_cases hb : b = a
    · rw [if_pos hb] at q; cases q; subst hb; exact ⟨hF, h0, vs', hq, hv.mono pF⟩
    · rw [if_neg hb] at q
      obtain ⟨x, y, ws, hz, hw⟩ := f.lst b Qs q
      exact ⟨x, y, ws, hz.sameBut hs hb, hw.mono pF⟩
theorem updM_dom {a : Addr} {Ps Ps' : List (Pd B)} {n : Nat} (ha : μ a = some Ps) : ∀ b, ((updM μ a Ps') b).isSome = true → (μ b).isSome = true ∨ n ≤ b := fun b q => by
  unfold updM at q
  by_cases hb : b = a
  · left; rw [hb, ha]; rfl
  · rw [if_neg hb] at q; exact .inl q
theorem Nxt.setL {F : Addr → Prop} {h h' : Heap} {a : Addr} {Ps Ps' : List (Pd B)} (ha : μ a = some Ps) (f : Frm C F h' ρ (updM μ a Ps')) : Nxt C F μ h ρ (updM μ a Ps') h' F := ⟨fun _ q => q, fun _ q => .inl q, f, updM_dom ha⟩
/-- a new list -/
noncomputable def EvN {B : Bs} (C : Cx B) (ρ : Rho B) (μ : Mu B) (e : Expr) (Ps : List (Pd B)) : Prop :=
  ∀ F s, Frm C F s.heap ρ μ → wpAny (md B) C.A (eval e C.env) (fun v s' => Stp B s s' ∧ ∃ a vs, v = .ref a ∧ s.heap.objs.size ≤ a ∧ IsSeq s'.heap "list" a vs ∧ all2 (fun b => F b ∨ b = a) s'.heap Ps vs) noE s
theorem EvN.list {es : List Expr} {pos : Pos} {Ps : List (Pd B)} (h : EvL C ρ μ es Ps) (hl : Ps.length ≤ sizeLine := by decide) : EvN C ρ μ (.List es pos) Ps := fun F s f =>
  List_ (wpMono (h F s pos f) fun vs s₁ ⟨p₁, h₁⟩ => wpAny_newList ⟨p₁.trans (.push _), _, vs, rfl, p₁.p.size, ⟨0, push_get rfl⟩, (h₁.weak (F' := fun b => F b ∨ b = s₁.heap.objs.size) fun b q => q.imp id fun q => Heap.get?_none_of_le (Nat.le_of_eq q.symm)).mono (Pres.push _)⟩ (by rw [h₁.length]; exact hl))
/-- a list that the frame owns, under a name -/
theorem Ex.own {x : Str} {pos' pos : Pos} {e : Expr} {Ps : List (Pd B)} {rest : List Stmt} {o : Out B} (h : EvN C ρ μ e Ps) (hk : Sto C x) (h' : ∀ a, μ a = none → Ex C (upd ρ x (pv (.ref a))) (updM μ a Ps) rest o)
    (hs : swapsWith e (some (.Name x pos')) pos.line C.env = pure false := by rfl) : Ex C ρ μ (.Assign [.Name x pos'] e pos :: rest) o := fun F s f => by
  refine wpAny_execs_cons (wpAny_Assign_Name (wpMono (h F s f) fun v s₁ ⟨p₁, a, vs, e, ha, hq, hv⟩ => ?_) hs)
  subst e
  have hfree : s.heap.get? a = none := Heap.get?_none_of_le ha
  have hμ : μ a = none := by
    cases hm : μ a with
    | none => rfl
    | some Qs => exact absurd (f.lt a (f.lst a Qs hm).1) (Nat.not_lt.mpr ha)
  obtain ⟨n, ea⟩ := id hq
  have f₁ := f.grow (F' := fun b => F b ∨ b = a) p₁.p (fun b q => q.imp id fun q => by rw [q]; exact hfree) (fun b q => .inl q) fun b q => q.elim (fun q => Nat.lt_of_lt_of_le (f.lt b q) p₁.p.size) fun q => by rw [q]; exact Heap.lt_size ea
  have l₂ : ∀ b Qs, updM μ a Ps b = some Qs → (F b ∨ b = a) ∧ C.h₀.objs.size ≤ b ∧ ∃ vs, IsSeq s₁.heap "list" b vs ∧ all2 (fun b => F b ∨ b = a) s₁.heap Qs vs := fun b Qs q => by
    unfold updM at q
    by_cases hb : b = a
    · rw [if_pos hb] at q; cases q; subst hb; exact ⟨.inr rfl, Nat.le_trans f.pres.size ha, vs, hq, hv⟩
    · rw [if_neg hb] at q; exact f₁.lst b Qs q
  have f₂ : Frm C (fun b => F b ∨ b = a) s₁.heap ρ (updM μ a Ps) := { f₁ with lst := l₂ }
  have n₁ : Nxt C F μ s.heap ρ (updM μ a Ps) s₁.heap (fun b => F b ∨ b = a) := ⟨fun b q => .inl q, fun b q => q.imp id fun q => by rw [q]; exact ha, f₂, fun b q => by
    unfold updM at q
    by_cases hb : b = a
    · right; rw [hb]; exact ha
    · rw [if_neg hb] at q; exact .inl q⟩
  refine wpMono (st_any (P := pv (.ref a)) f₂ rfl hk) fun _ s₂ ⟨r₂, f₃, p₂⟩ => wpMono (h' a hμ _ s₂ f₃) fun fl s₃ ⟨r₃, h₃⟩ => ⟨(p₁.r.trans r₂).trans r₃, ?_⟩
  exact n₁.out p₁.p.any (Nxt.out p₂ (.same f₃) h₃)
/-- x.append(e) -/
theorem Ex1.append {x : Str} {np apos pos pos' : Pos} {e : Expr} {P : Pd B} {a : Addr} {Ps : List (Pd B)} (hx : Ev C ρ μ (.Name x np) (pv (.ref a))) (ha : μ a = some Ps) (he : Ev C ρ μ e P) (hz : Ps.length ≤ sizeLine)
    (hfew : ((backTo pos (starEach [e] C.env)).all (fun x => !x.1) && (backToKw pos (keywordEach [] C.env)).all (fun x => x.1.isSome) && decide (([e] : List Expr).length + ([] : List Keyword).length + (if ([] : List Keyword).isEmpty then 0 else 1) < 30)) = true := by rfl)
    (hline : (apos.endLine == pos.line) = true := by rfl) (htrees : backTo pos (starEach [e] C.env) = [(false, eval e C.env)] := by rfl)
    (hi : interactive C.env = false := by rfl) (hs : swapsWith (.Call (.Attribute (.Name x np) "append" apos) [e] [] pos) none pos'.line C.env = pure false := by rfl) :
    Ex1 C ρ μ (.Expr (.Call (.Attribute (.Name x np) "append" apos) [e] [] pos) pos') (.next ρ (updM μ a (Ps ++ [P]))) := fun F s f => by
  refine wpAny_Expr_any (wpAny_Call_append (by rfl) hfew hline htrees (wpMono (hx F s f) fun v s₁ ⟨p₁, e₁⟩ => ?_)) hi hs
  obtain rfl : v = .ref a := e₁
  have f₁ := f.step p₁.p
  obtain ⟨hF, h0, vs, ⟨n, eq⟩, _⟩ := f₁.lst a Ps ha
  refine ⟨a, vs.toArray, rfl, ⟨_, n, eq, rfl, rfl, rfl⟩, wpMono (he F s₁ f₁) fun y s₂ ⟨p₂, h₂⟩ => ?_⟩
  have f₂ := f₁.step p₂.p
  obtain ⟨hF, h0, ws, hq, hw⟩ := f₂.lst a Ps ha
  refine wpAny_list_append_plain (items := ws.toArray) hq (fun h' hq' hs' => ?_) (by rw [List.size_toArray, hw.length]; exact hz)
  obtain ⟨f₃, p₃⟩ := f₂.setL (Ps' := Ps ++ [P]) (vs' := ws ++ [y]) ha hs' (let ⟨n, e⟩ := hq'; ⟨n, by rw [e]; simp⟩) (hw.append ⟨h₂, trivial⟩)
  exact ⟨⟨p₂.r.1.trans p₁.r.1, p₂.r.2.trans p₁.r.2, p₂.r.3.trans p₁.r.3⟩, (p₁.p.trans p₂.p).any.trans p₃, F, .setL ha f₃⟩
/-- the frame's own list goes out -/
theorem Ex1.retOwn {e : Expr} {pos : Pos} {a : Addr} {ds : List D} (hx : Ev C ρ μ e (pv (.ref a))) (ha : μ a = some (ds.map pd)) : Ex1 C ρ μ (.Return (some e) pos) (.ret (pd (.lst ds))) := fun F s f =>
  wpAny_Return_some (wpMono (hx F s f) fun v s₁ ⟨p₁, e₁⟩ => by
    obtain rfl : v = .ref a := e₁
    have f₁ := f.step p₁.p
    obtain ⟨hF, h0, vs, hq, hv⟩ := f₁.lst a _ ha
    refine ⟨p₁.r, p₁.p.any, f₁.pres, ?_⟩
    simp only [pd, rep]
    have hge : C.h₀.objs.size ≤ a := h0
    exact ⟨a, vs, rfl, fun q => Nat.lt_irrefl _ (Nat.lt_of_lt_of_le q.2 hge), hq, (all2.pds.mp hv).weak fun b q => .inl q.1⟩)
end Mine
open PySem PySem.W PyProof.Rows
set_option Elab.async false
set_option maxRecDepth 100000
set_option linter.unusedVariables false
set_option linter.unusedSimpArgs false
namespace Mine
variable {B : Bs} {C : Cx B} {ρ : Rho B} {μ : Mu B}
theorem setItem_seq {A : Around} {s : Shared} {E : Value → Shared → Prop} {l : Addr} {vs : List Value} {k : Int} {t : Tok} {v : Value} {Q : Unit → Shared → Prop} (hq : IsSeq s.heap "list" l vs) (h0 : 0 ≤ k) (hfit : k < 2 ^ 63) (hn : k.toNat < vs.length)
    (hQ : ∀ h', IsSeq h' "list" l (vs.set k.toNat v) → Heap.SameBut l s.heap h' → Q () { s with heap := h' }) : wpAny (md B) A (setItem (.ref l) (.int k t) v) Q E s := by
  obtain ⟨n, ho⟩ := id hq
  have hT := hq.isList.typeIs (s := s)
  unfold setItem
  try with_reducible refine wpAny_holding ?_
  first | refine wpAny_bind (wpAny_pure ?_) | skip
  refine wpAny_bind (wpAny_sequenceKey hT (by decide) ?_)
  refine wpAny_bind (wpAny_callSpecial?_slot (name := Str.ofString "__setitem__") hT slot_list_setitem (wpAny_call_entry slot_list_setitem hT entry_list_setitem ?_ (args_list_setitem _ _ _)))
  show wpAny _ _ (Builtin.List.listSubscript? (.int k t) >>= _) _ _ s
  refine wpAny_bind (wpAny_listSubscript_int (fitsIndex_of h0 hfit) ?_)
  clear hfit
  obtain ⟨j, rfl⟩ := Int.eq_ofNat_of_zero_le h0
  have hj : j < vs.length := by simpa using hn
  have hx' : vs.toArray[j]? = some vs[j] := by simp [hj]
  show wpAny _ _ ((seqItemAt l j >>= fun r => pure (r.map (j, ·))) >>= _) _ _ s
  refine wpAny_bind (wpAny_bind (wpAny_seqItemAt ho rfl (wpAny_pure ?_)))
  rw [hx']
  show wpAny _ _ (setSeqItemAt l j v >>= _) _ _ s
  have e : Obj.mapSeq (·.setIfInBounds j v) { cls := .type "list", data := .seq vs.toArray n } = { cls := .type "list", data := .seq (vs.set j v).toArray n } := by
    simp [Obj.mapSeq]
  have hfin : IsSeq (s.heap.update l (Obj.mapSeq (·.setIfInBounds j v))) "list" l (vs.set j v) := ⟨n, by rw [Heap.get?_update_self _ ho (by rw [e]; rfl), e]⟩
  refine wpAny_bind (wpAny_setSeqItemAt ho rfl ?_)
  first
    | exact wpAny_bind (wpAny_pure (wpAny_pure ⟨.none, rfl, wpAny_pure (hQ _ hfin (Heap.SameBut.update ..))⟩))
    | exact wpAny_pure ⟨.none, rfl, wpAny_pure (hQ _ hfin (Heap.SameBut.update ..))⟩
theorem all2_set {F : Addr → Prop} {h : Heap} {P : Pd B} {v : Value} (hv : P.p F h v) : ∀ {Ps : List (Pd B)} {vs : List Value} (k : Nat), all2 F h Ps vs → all2 F h (Ps.set k P) (vs.set k v)
  | _ :: _, _ :: _, 0, x => ⟨hv, x.2⟩
  | _ :: _, _ :: _, k + 1, x => ⟨x.1, all2_set hv k x.2⟩
  | [], [], _, _ => trivial
  | [], _ :: _, _, x => x.elim
  | _ :: _, [], _, x => x.elim
/-- o[i] = e, o a list that the frame owns -/
theorem Ex1.setIx {o i value : Expr} {pos' pos : Pos} {a : Addr} {k : Int} {P : Pd B} {Ps : List (Pd B)} (hv : Ev C ρ μ value P) (ho : Ev C ρ μ o (pv (.ref a))) (hi : Ev C ρ μ i (pint k)) (ha : μ a = some Ps) (h0 : 0 ≤ k) (hfit : k < 2 ^ 63) (hn : k.toNat < Ps.length)
    (hs : swapsWith value (some (.Subscript o i pos')) pos.line C.env = pure false := by rfl) : Ex1 C ρ μ (.Assign [.Subscript o i pos'] value pos) (.next ρ (updM μ a (Ps.set k.toNat P))) := fun F s f =>
  wpAny_Assign_Subscript (wpMono (hv F s f) fun v s₁ ⟨p₁, h₁⟩ => wpMono (ho F s₁ (f.step p₁.p)) fun ov s₂ ⟨p₂, e₂⟩ => wpMono (hi F s₂ ((f.step p₁.p).step p₂.p)) fun iv s₃ ⟨p₃, h₃⟩ => by
    obtain rfl : ov = .ref a := e₂
    obtain ⟨t, rfl⟩ := int_of h₃
    have f₃ := ((f.step p₁.p).step p₂.p).step p₃.p
    have h₁' := P.mono h₁ (p₂.trans p₃).p.any
    obtain ⟨hF, h0', vs, hq, hw⟩ := f₃.lst a Ps ha
    refine setItem_seq hq h0 hfit (by rw [hw.length]; exact hn) fun h' hq' hs' => ?_
    obtain ⟨f₄, p₄⟩ := f₃.setL ha hs' hq' (all2_set h₁' k.toNat hw)
    exact ⟨⟨(p₃.r.1.trans p₂.r.1).trans p₁.r.1, (p₃.r.2.trans p₂.r.2).trans p₁.r.2, (p₃.r.3.trans p₂.r.3).trans p₁.r.3⟩, ((p₁.p.trans p₂.p).trans p₃.p).any.trans p₄, F, .setL ha f₄⟩) hs
/-- o[i], o a list that the frame owns -/
theorem Ev.ixOwn {value slice : Expr} {pos : Pos} {a : Addr} {k : Int} {P : Pd B} {Ps : List (Pd B)} (hv : Ev C ρ μ value (pv (.ref a))) (hs : Ev C ρ μ slice (pint k)) (ha : μ a = some Ps) (h0 : 0 ≤ k) (hk : k < 2 ^ 63) (hd : Ps[k.toNat]? = some P) (hp : plainIx slice = true := by rfl) :
    Ev C ρ μ (.Subscript value slice pos) P := Ev.subs hv hs fun F s o i f ho hi => by
  obtain rfl : o = .ref a := ho
  obtain ⟨t, rfl⟩ := int_of hi
  obtain ⟨hF, h0', vs, hq, hw⟩ := f.lst a Ps ha
  obtain ⟨v, hv, hr⟩ := hw.get hd
  exact tail_any' hq.isList.typeIs slot_list_getitem.lookup (wpAny_getItem_list hq.isList h0 hk (by simpa using hv) ⟨.refl, hr⟩) (subscripted_ix hp)
/-- the methods of the built-in kinds -/
theorem Ev.meth {o : Expr} {name : Str} {apos pos : Pos} {args : List Expr} {T id : String} {P R : Pd B} {Ps : List (Pd B)} {n : Nat} {H : Option Value → Prop} (ho : Ev C ρ μ o P) (hT : ∀ (F : Addr → Prop) (s : Shared) (v : Value), P.p F s.heap v → s.TypeIs v T ∧ ∀ a, v = .ref a → ∃ ob, s.heap.get? a = some ob ∧ ob.dict = Option.none)
    (ha : EvL C ρ μ args Ps) (hn : Fn B n (.builtin id) (P :: Ps) R H) (hr : Room n C.A) (hh : H C.A.handled) (pa : PlainAttrs T) (slot : Slot T name id) (hty : typeOf (.builtin id) = pure (.type "method_descriptor"))
    (hbase : attributeBase o name C.env (eval o C.env) = eval o C.env := by rfl)
    (hfew : ((backTo pos (starEach args C.env)).all (fun x => !x.1) && (backToKw pos (keywordEach [] C.env)).all (fun x => x.1.isSome) && decide (args.length + ([] : List Keyword).length + (if ([] : List Keyword).isEmpty then 0 else 1) < 30)) = true := by rfl)
    (hline : (apos.endLine == pos.line) = true := by rfl) (hp : (backTo pos (starEach args C.env)).any (·.1) = false := by rfl) : Ev C ρ μ (.Call (.Attribute o name apos) args [] pos) R := fun F s f =>
  wpAny_Call_method hbase hfew hline pa slot hty (wpMono (ho F s f) fun ov s₁ ⟨p₁, h₁⟩ => by
    obtain ⟨t1, t2⟩ := hT F s₁ ov h₁
    refine ⟨t1, t2, callWith_any trivial hp (wpMono (ha F s₁ pos (f.step p₁.p)) fun vs s₂ ⟨p₂, h₂⟩ => ?_)⟩
    have f₂ := (f.step p₁.p).step p₂.p
    exact ⟨f₂.h, wpMono (hn.call F C.A s₂ (ov :: vs) hr hh f₂.stack f₂.h f₂.lt ⟨P.mono h₁ p₂.p.any, h₂⟩) fun r s₃ ⟨p₃, h₃⟩ => ⟨(p₁.trans p₂).trans p₃, h₃⟩⟩)
end Mine
open PySem PySem.W PyProof.Rows
set_option Elab.async false
set_option maxRecDepth 100000
set_option linter.unusedVariables false
set_option linter.unusedSimpArgs false
namespace Mine
variable {B : Bs} {C : Cx B} {ρ : Rho B} {μ : Mu B}
theorem cnt_eq (c : Nat) : ∀ l : List Nat, cnt c l = (l.count c : Int)
  | [] => rfl
  | n :: r => by
    rw [cnt_cons, cnt_eq c r, List.count_cons]
    by_cases h : n = c
    · simp [h]; omega
    · simp [h]
theorem fn_count {H : Option Value → Prop} (l : List Nat) (c : Nat) : Fn B 0 (.builtin "str.count") [ptx l, ptx [c]] (pint (l.count c)) H where
  kept := trivial
  call := fun F A s vs hr hh hst hb hlt hv => by
    obtain ⟨v, w, rfl, h1, h2⟩ := two_args hv
    obtain ⟨t, rfl⟩ := str_of h1
    obtain ⟨u, rfl⟩ := str_of h2
    refine SC.count ⟨.toks, ?_⟩
    have e : Txt.count (mkS l) (mkS [c]) = (l.count c : Int) := by
      rw [show mkS [c] = (⟨#[c]⟩ : Str) from rfl, count_cnt, cnt_eq]; rfl
    rw [e]; exact of_int
theorem Ev.countS {o a : Expr} {apos pos : Pos} {l : List Nat} {c : Nat} (ho : Ev C ρ μ o (ptx l)) (ha : Ev C ρ μ a (ptx [c])) (hr : Room 0 C.A)
    (hbase : attributeBase o (Str.ofString "count") C.env (eval o C.env) = eval o C.env := by rfl) (hst : starEach [a] C.env = [(false, eval a C.env)] := by rfl)
    (hline : (apos.endLine == pos.line) = true := by rfl) : Ev C ρ μ (.Call (.Attribute o (Str.ofString "count") apos) [a] [] pos) (pint (l.count c)) :=
  Ev.meth ho (fun F s v h => by obtain ⟨t, rfl⟩ := str_of h; exact ⟨typeIs_str s _ _, fun _ e => nomatch e⟩) (EvL.cons ha EvL.nil hst) (fn_count (H := fun _ => True) l c) hr trivial PySem.F.plainAttrs_str PySem.F.slot_str_count PySem.F.type_str_count hbase (by rw [hst]; rfl) hline (by rw [hst]; rfl)
theorem strs_of {F : Addr → Prop} {h : Heap} : ∀ {vs : List Value} {ss : List Str}, reps F h vs (ss.map .str) → CarriedAll vs (ss.map PyData.str)
  | [], [], _ => .nil
  | v :: vs, n :: ns, x => by
    simp only [List.map_cons, reps, rep] at x
    obtain ⟨⟨t, rfl⟩, r⟩ := x
    exact .cons (.str _ _) (strs_of r)
  | [], _ :: _, x => by simp [reps] at x
  | _ :: _, [], x => by simp [reps] at x
theorem join_flat (ls : List (List Nat)) : Txt.join (Str.ofString "") (ls.map mkS) = mkS ls.flatten := by
  show Builtin.Str.glued (Str.ofString "") (ls.map mkS) = _
  rw [StrLaws.glued_eq_join]
  have e0 : Str.ofString "" = mkS [] := rfl
  rw [e0]
  have app : ∀ a b : List Nat, mkS a ++ mkS [] ++ mkS b = mkS (a ++ b) := fun a b => by rw [mkS_append, mkS_append, List.append_nil]
  induction ls with
  | nil => rfl
  | cons l ls ih => cases ls with
    | nil => simp [Str.join]
    | cons m ls =>
      have : Str.join (mkS []) (List.map mkS (l :: m :: ls)) = mkS l ++ mkS [] ++ Str.join (mkS []) (List.map mkS (m :: ls)) := rfl
      rw [this, ih, app]; simp
theorem fn_join {H : Option Value → Prop} (ls : List (List Nat)) (hl : ∀ l ∈ ls, l.length ≤ 1) (hn : ls.length ≤ 1000) : Fn B 0 (.builtin "str.join") [ptx [], pd (.lst (ls.map fun l => .str (mkS l)))] (ptx ls.flatten) H where
  kept := trivial
  call := fun F A s vs hr hh hst hb hlt hv => by
    obtain ⟨v, w, rfl, h1, h2⟩ := two_args hv
    obtain ⟨t, rfl⟩ := str_of h1
    obtain ⟨a, ws, rfl, hF, hq, hr⟩ := lst_of h2
    refine PySem.W.KT.join_B (l := ls) (g := mkS) 1 hq.isList (by have := strs_of (ss := ls.map mkS) (by rw [List.map_map]; exact hr); rw [List.map_map] at this; exact this) (fun l h => by rw [mkS_length]; exact hl l h) (by omega) (by decide) fun t' k => ⟨.toks, ?_⟩
    have := join_flat ls
    rw [show (mkS ([] : List Nat)) = Str.ofString "" from rfl, this]; exact of_str
theorem fn_strI {H : Option Value → Prop} (i : Int) (h : i.natAbs.log2 < 1920) : Fn B 0 (.type "str") [pint i] (pstr (toString i)) H where
  kept := trivial
  call := fun F A s vs hr hh hst hb hlt hv => by
    obtain ⟨v, rfl, h1⟩ := one_arg hv
    obtain ⟨t, rfl⟩ := int_of h1
    exact PySem.P.str_of_int h ⟨.toks, of_str⟩
theorem fn_sum (ns : List Int) : Fn B 0 (.builtin "sum") [pd (.lst (ns.map .int))] (pint ns.sum) where
  kept := trivial
  call := fun F A s vs hr hh hst hb hlt hv => by
    obtain ⟨v, rfl, h1⟩ := one_arg hv
    obtain ⟨a, ws, rfl, hF, hq, hr⟩ := lst_of h1
    obtain ⟨xs, e⟩ : ∃ xs : List (Int × Tok), ws = xs.map (fun p => Value.int p.1 p.2) ∧ xs.map (·.1) = ns := by
      clear h1 hq hv
      induction ns generalizing ws with
      | nil => cases ws with
        | nil => exact ⟨[], rfl, rfl⟩
        | cons _ _ => simp [reps] at hr
      | cons n ns ih => cases ws with
        | nil => simp [reps] at hr
        | cons w ws =>
          simp only [List.map_cons, reps, rep] at hr
          obtain ⟨⟨t, rfl⟩, hr⟩ := hr
          obtain ⟨xs, rfl, e⟩ := ih ws hr
          exact ⟨(n, t) :: xs, rfl, by simp [e]⟩
    obtain ⟨rfl, e2⟩ := e
    have hl : s.heap.IsList a (intItems xs.toArray) := by
      have := hq.isList
      rw [show (xs.map (fun p => Value.int p.1 p.2)).toArray = intItems xs.toArray from by simp [intItems]] at this
      exact this
    refine wpSize (sum_intListG (Q := fun v s' => ∃ t', v = .int ns.sum t' ∧ Rest s s' ∧ ∀ b o, s.heap.get? b = some o → s'.heap.get? b = some o) hh hl fun h' tk t' hk => ⟨t', ?_, ⟨rfl, rfl, rfl⟩, hk⟩) fun v s' ⟨t', e, r, hk⟩ hz => ?_
    · rw [preSum_eq, ← e2, List.take_of_length_le (by simp)]
    · subst e; exact ⟨⟨.of_keep hk hz, r⟩, of_int⟩
end Mine
open PySem PySem.W PyProof.Rows
set_option Elab.async false
set_option maxRecDepth 100000
set_option linter.unusedVariables false
set_option linter.unusedSimpArgs false
namespace Mine
variable {B : Bs} {C : Cx B} {ρ : Rho B} {μ : Mu B}
open PySem.SeqAt
mutual
noncomputable def dep : D → Nat
  | .tup l => deps l + 1
  | .lst l => deps l + 1
  | _ => 0
noncomputable def deps : List D → Nat
  | [] => 0
  | d :: ds => max (dep d) (deps ds)
end
mutual
theorem eq_same {F : Addr → Prop} {s : Shared} : ∀ (d : D) (A : Around) (v w : Value), rep F s.heap v d → rep F s.heap w d → A.units + dep d < cLine → EqAt A s v w true
  | .none, A, v, w, x, y, _ => by simp only [rep] at x y; subst x; subst y; exact EqAt.same _
  | .bool b, A, v, w, x, y, _ => by simp only [rep] at x y; subst x; subst y; exact EqAt.same _
  | .int i, A, v, w, x, y, _ => by
    simp only [rep] at x y
    obtain ⟨t, rfl⟩ := x; obtain ⟨u, rfl⟩ := y
    intro prog w' E Q hq
    exact wpAny_eqBool_int (by rw [beq_self_eq_true]; exact hq)
  | .str i, A, v, w, x, y, _ => by
    simp only [rep] at x y
    obtain ⟨t, rfl⟩ := x; obtain ⟨u, rfl⟩ := y
    intro prog w' E Q hq
    exact wpAny_eqBool_str (by simpa using hq)
  | .tup l, A, v, w, x, y, hu => by
    simp only [rep] at x y
    obtain ⟨a, vs, rfl, _, hq, hr⟩ := x
    obtain ⟨b, ws, rfl, _, hq', hr'⟩ := y
    by_cases hab : a = b
    · subst hab; exact EqAt.same _
    · simp only [dep] at hu
      have e1 := reps_length hr
      have e2 := reps_length hr'
      refine EqAt.of_refs hab ?_
      have := RcAt.tuples (A := A) (e := fun _ => true) (seq_isTuple hq) (seq_isTuple hq') (by omega) (fun j h1 h2 => by
        have h1' : j < l.length := by simp at h1; omega
        simp only [List.getElem_toArray]
        exact eq_sames l A.in1 vs ws hr hr' (by show A.units + 1 + _ < _; omega) j (by simp at h1; exact h1) (by simp at h2; exact h2))
      have e : ((List.range (min vs.toArray.size ws.toArray.size)).all (fun _ => true) && vs.toArray.size == ws.toArray.size) = true := by simp [e1, e2]
      rw [e] at this
      exact this
  | .lst l, A, v, w, x, y, hu => by
    simp only [rep] at x y
    obtain ⟨a, vs, rfl, _, hq, hr⟩ := x
    obtain ⟨b, ws, rfl, _, hq', hr'⟩ := y
    by_cases hab : a = b
    · subst hab; exact EqAt.same _
    · simp only [dep] at hu
      have e1 := reps_length hr
      have e2 := reps_length hr'
      refine EqAt.of_refs hab ?_
      have := RcAt.lists (A := A) (e := fun _ => true) hq.isList hq'.isList (by simp [e1, e2]) (by omega) (fun j h1 h2 => by
        simp only [List.getElem_toArray]
        exact eq_sames l A.in1 vs ws hr hr' (by show A.units + 1 + _ < _; omega) j (by simp at h1; exact h1) (by simp at h2; exact h2))
      have e : ((List.range vs.toArray.size).all (fun _ => true)) = true := by simp
      rw [e] at this
      exact this
theorem eq_sames {F : Addr → Prop} {s : Shared} : ∀ (l : List D) (A : Around) (vs ws : List Value), reps F s.heap vs l → reps F s.heap ws l → A.units + deps l < cLine → ∀ j (h1 : j < vs.length) (h2 : j < ws.length), EqAt A s vs[j] ws[j] true
  | [], A, vs, ws, x, y, hu, j, h1, h2 => by
    cases vs with
    | nil => simp at h1
    | cons _ _ => simp [reps] at x
  | d :: ds, A, vs, ws, x, y, hu, j, h1, h2 => by
    cases vs with
    | nil => simp at h1
    | cons v vs => cases ws with
      | nil => simp at h2
      | cons w ws =>
        simp only [reps] at x y
        simp only [deps] at hu
        cases j with
        | zero => exact eq_same d A v w x.1 y.1 (by omega)
        | succ j => exact eq_sames ds A vs ws x.2 y.2 (by omega) j (by simpa using h1) (by simpa using h2)
end
theorem Ev.eqL {l r : Expr} {pos : Pos} {x : List D} (hl : Ev C ρ μ l (pd (.lst x))) (hr : Ev C ρ μ r (pd (.lst x))) (hu : C.A.units + deps x + 1 < cLine) (hm : behindInMarks .Eq r = false := by with_unfolding_all rfl) : Ev C ρ μ (.Compare l [.Eq] [r] pos) (pbool true) :=
  Ev.cmp hl hr (fun F s a b f ha hb => by
    obtain ⟨c, vs, rfl, _, hq, hr⟩ := lst_of ha
    obtain ⟨d, ws, rfl, _, hq', hr'⟩ := lst_of hb
    have e1 := reps_length hr
    have e2 := reps_length hr'
    refine eq_listAt (e := fun _ => true) hq.isList hq'.isList (by simp [e1, e2]) (by omega) (fun j h1 h2 => by
        simp only [List.getElem_toArray]
        exact eq_sames x C.A.in1 vs ws hr hr' (by show C.A.units + 1 + _ < _; omega) j (by simp at h1; exact h1) (by simp at h2; exact h2)) ⟨.refl, ?_⟩
    have e : ((List.range vs.toArray.size).all (fun _ => true)) = true := by simp
    rw [e]; exact of_bool) hm
end Mine
open PySem PySem.W PyProof.Rows
set_option Elab.async false
set_option maxRecDepth 100000
set_option linter.unusedVariables false
set_option linter.unusedSimpArgs false
namespace Mine
variable {B : Bs} {C : Cx B} {ρ : Rho B} {μ : Mu B}
theorem codeAmong_app {pos : Pos} {l c : Nat} {x : Value} : ∀ (ps : List Value), TriplesOk ps → codeAmong pos (ps ++ [rawInt l, rawInt c, x]) = match codeAmong pos ps with | some v => some v | none => if pos.line = l ∧ pos.col = c then some x else none
  | [], _ => by
    have e : codeAmong pos ([] ++ [rawInt l, rawInt c, x]) = if ((l : Int) == (pos.line : Int)) && ((c : Int) == (pos.col : Int)) then some x else none := rfl
    rw [e]
    simp only [codeAmong]
    by_cases h : pos.line = l ∧ pos.col = c
    · rw [if_pos h, if_pos (by simp [h.1, h.2])]
    · rw [if_neg h, if_neg (by simp; intro h1 h2; exact h ⟨by omega, by omega⟩)]
  | .int a t :: .int b u :: v :: r, h => by
    have ih := codeAmong_app (pos := pos) (l := l) (c := c) (x := x) r h
    simp only [List.cons_append, codeAmong]
    by_cases hc : ((a == (pos.line : Int)) && (b == (pos.col : Int))) = true
    · rw [if_pos hc, if_pos hc]
    · rw [if_neg hc, if_neg hc]; exact ih
/-- a table without entries is good -/
theorem GoodTab.empty {h : Heap} {P : Addr} (e : h.get? P = some (tabObj #[])) : ∀ k, GoodTab B h k P
  | 0 => ⟨#[], e, trivial, fun pos v q => nomatch q⟩
  | _ + 1 => ⟨#[], e, trivial, fun pos v q => nomatch q⟩
theorem CodeHd.inj {h : Heap} {c P P' : Addr} (x : CodeHd h c P) (y : CodeHd h c P') : P = P' := by
  obtain ⟨o, vs, _, _, _, _, _, _, _, e, _, d, g, _⟩ := x
  obtain ⟨o', vs', _, _, _, _, _, _, _, e', _, d', g', _⟩ := y
  rw [e] at e'; cases e'; rw [d] at d'; cases d'; rw [g] at g'; cases g'; rfl
/-- a table that has won an entry -/
theorem GoodTab.grow {h h' : Heap} {P c' P' : Addr} {ps : Array Value} {l c : Nat} (hx : Heap.ExtBut P h h') (hP : h.get? P = some (tabObj ps)) (ht : TriplesOk ps.toList) (hP' : h'.get? P = some (tabObj (ps ++ #[rawInt l, rawInt c, .ref c'])))
    (ht' : TriplesOk (ps ++ #[rawInt l, rawInt c, .ref c']).toList) (hg : GoodCode B h' l c c') (hh : CodeHd h' c' P') (he : h'.get? P' = some (tabObj #[])) : ∀ k b, GoodTab B h k b → GoodTab B h' k b := by
  have code : ∀ {l c x}, GoodCode B h l c x → GoodCode B h' l c x := fun {l c x} ⟨q, hq, o, vs, t, P₁, e, hc, hd, hv, hh, hm⟩ => by
    have ne : ∀ {a : Addr} {o : Obj}, h.get? a = some o → o.cls = .type "code" → a ≠ P := fun e hc q => by rw [q, hP] at e; cases e; cases hc
    refine ⟨q, hq, o, vs, t, P₁, hx _ _ (ne e hc) e, hc, hd, hv, ?_, hm⟩
    obtain ⟨o', vs', file, tf, flags, tg, inF, text, tt, e', hc', r⟩ := hh
    exact ⟨o', vs', file, tf, flags, tg, inF, text, tt, hx _ _ (ne e' hc') e', hc', r⟩
  have back : ∀ {l c x P₂}, GoodCode B h l c x → CodeHd h' x P₂ → CodeHd h x P₂ := fun {l c x P₂} ⟨q, hq, o, vs, t, P₁, e, hc, _⟩ y =>
    CodeHd.back e (hx _ _ (fun q => by rw [q, hP] at e; cases e; cases hc) e) y
  intro k
  induction k with
  | zero =>
    rintro b ⟨ps₁, e, t, hv⟩
    by_cases hb : b = P
    · subst hb
      rw [hP] at e; cases e
      refine ⟨_, hP', ht', fun pos v q => ?_⟩
      simp only [Array.toList_append] at q
      rw [codeAmong_app _ ht] at q
      split at q
      · rename_i v' hv'; cases q; obtain ⟨x, e1, e2⟩ := hv pos _ hv'; exact ⟨x, e1, code e2⟩
      · split at q
        · rename_i hpc; cases q; exact ⟨c', rfl, by rw [hpc.1, hpc.2]; exact hg⟩
        · cases q
    · exact ⟨ps₁, hx _ _ hb e, t, fun pos v q => let ⟨x, e1, e2⟩ := hv pos v q; ⟨x, e1, code e2⟩⟩
  | succ k ih =>
    rintro b ⟨ps₁, e, t, hv⟩
    by_cases hb : b = P
    · subst hb
      rw [hP] at e; cases e
      refine ⟨_, hP', ht', fun pos v q => ?_⟩
      simp only [Array.toList_append] at q
      rw [codeAmong_app _ ht] at q
      split at q
      · rename_i v' hv'; cases q; obtain ⟨x, e1, e2, e3⟩ := hv pos _ hv'; exact ⟨x, e1, code e2, fun P₂ y => ih _ (e3 P₂ (back e2 y))⟩
      · split at q
        · rename_i hpc; cases q; exact ⟨c', rfl, by rw [hpc.1, hpc.2]; exact hg, fun P₂ y => by obtain rfl := CodeHd.inj hh y; exact GoodTab.empty he k⟩
        · cases q
    · exact ⟨ps₁, hx _ _ hb e, t, fun pos v q => let ⟨x, e1, e2, e3⟩ := hv pos v q; ⟨x, e1, code e2, fun P₂ y => ih _ (e3 P₂ (back e2 y))⟩⟩
/-- the code of an inner def or lambda: met before, or made now -/
theorem fcode {env : Env} {A : Around} {s : Shared} {c P : Addr} {k : Nat} {pos : Pos} {fl : Nat} {name qual : Str} {params : Arguments} {scope : Scope} {body : FuncBody} (hb : Base B s.heap) (hc : env.code = .ref c) (hC : CodeHd s.heap c P) (hT : GoodTab B s.heap k P) (hm : B.mt P)
    (hq : B.qual pos.line pos.col = some qual) :
    wpAny (md B) A (functionCode env pos fl name qual params scope body) (fun v s' => ∃ c', v = .ref c' ∧ Stp B s s' ∧ GoodCode B s'.heap pos.line pos.col c' ∧ ∀ k', k = k' + 1 → ∀ P', CodeHd s'.heap c' P' → GoodTab B s'.heap k' P') noE s := by
  obtain ⟨ps, e, ht, hx⟩ : ∃ ps, s.heap.get? P = some (tabObj ps) ∧ TriplesOk ps.toList ∧ ∀ (pos : Pos) v, codeAmong pos ps.toList = some v → ∃ c, v = .ref c ∧ GoodCode B s.heap pos.line pos.col c ∧ ∀ k', k = k' + 1 → ∀ P', CodeHd s.heap c P' → GoodTab B s.heap k' P' := by
    cases k with
    | zero => obtain ⟨ps, e, ht, hx⟩ := hT; exact ⟨ps, e, ht, fun pos v q => let ⟨c, e1, e2⟩ := hx pos v q; ⟨c, e1, e2, fun k' q => nomatch q⟩⟩
    | succ k => obtain ⟨ps, e, ht, hx⟩ := hT; exact ⟨ps, e, ht, fun pos v q => let ⟨c, e1, e2, e3⟩ := hx pos v q; ⟨c, e1, e2, fun k' q => by cases q; exact e3⟩⟩
  have hcode := hC.code e ht
  cases hf : codeAmong pos ps.toList with
  | some v =>
    obtain ⟨c', rfl, g1, g2⟩ := hx pos v hf
    exact wpAny_functionCode_hit hc hcode hf ⟨c', rfl, .refl, g1, g2⟩
  | none =>
    refine wpSize (wpAny_functionCodeX (Q := fun v s' => ∃ c', v = .ref c' ∧ Rest s s' ∧ Heap.ExtBut P s.heap s'.heap ∧ s.heap.objs.size ≤ c' ∧ s'.heap.IsCode c P (ps ++ #[rawInt pos.line, rawInt pos.col, .ref c']) ∧ s'.heap.CodeRec (.ref c') qual ∧
      s'.heap.TableAt c P (ps ++ #[rawInt pos.line, rawInt pos.col, .ref c']) ∧ ∃ P', s.heap.objs.size ≤ P' ∧ s'.heap.IsCode c' P' #[] ∧ s'.heap.TableAt c' P' #[]) hc hcode (hC.tab e) hf fun c' h' tk h1 h2 h3 h4 h5 h6 h7 => ⟨c', rfl, ⟨rfl, rfl, rfl⟩, h1, h2, h4, h5, h6, h7⟩) fun v s' ⟨c', ev, r, h1, h2, h4, h5, h6, P', h7, h8, h9⟩ hz => ?_
    subst ev
    have hh : CodeHd s'.heap c' P' := CodeHd.of h8 h9
    have hg : GoodCode B s'.heap pos.line pos.col c' := by
      obtain ⟨c₂, o, vs, t, e2, g1, g2, g3⟩ := h5
      cases e2
      obtain ⟨⟨o', vs', f1, f2, f3, f4⟩, _⟩ := id h9
      rw [g1] at f1; cases f1
      exact ⟨qual, hq, o, vs, t, P', g1, f2, g2, g3, hh, .inr (Nat.le_trans hb.size h7)⟩
    have ht' : TriplesOk (ps ++ #[rawInt pos.line, rawInt pos.col, Value.ref c']).toList := by
      obtain ⟨_, _, _, _, _, _, _, _, _, op, _, _, _, _, _, _, _, g1, g2, g3, _⟩ := h4
      exact g3
    refine ⟨c', rfl, ⟨⟨fun b o eb _ f => h1 b o (fun q => ?_) eb, fun b o eb _ f => ⟨o.slots, h1 b o (fun q => by subst q; rw [e] at eb; cases eb; cases f) eb⟩, GoodTab.grow h1 e ht h6.2 ht' hg hh h9.2, hz⟩, r⟩, hg, fun k' _ P₂ y => ?_⟩
    · subst q; rw [e] at eb; cases eb
      rcases f with f | f
      · cases f
      · exact f hm
    · obtain rfl := CodeHd.inj hh y; exact GoodTab.empty h9.2 k'
end Mine
open PySem PySem.W PyProof.Rows
set_option Elab.async false
set_option maxRecDepth 100000
set_option linter.unusedVariables false
set_option linter.unusedSimpArgs false
namespace Mine
variable {B : Bs} {C : Cx B} {ρ : Rho B} {μ : Mu B}
noncomputable abbrev mkFd (name qual : Str) (params : Arguments) (body : FuncBody) (scope : Scope) (clos : List (Str × Addr)) (dV pm doc ctv : Value) (c' : Addr) : FuncData :=
  { name, qualname := qual, params, body, scope, globals := mainGlobals, closure := clos, closureTuple := ctv, code := .ref c', builtins := builtinsNs, defaults := dV, kwdefaults := .none, annotations := none, pyModule := pm, doc }
theorem CodeHd.keeps' {h h' : Heap} {c P : Addr} (x : CodeHd h c P) (p : Pres B none' h h') : CodeHd h' c P := by
  obtain ⟨o, vs, file, tf, flags, tg, inF, text, tt, e, hc, r⟩ := x
  exact ⟨o, vs, file, tf, flags, tg, inF, text, tt, p.obj _ _ e (.inl fun q => q) (.inl (var_fields hc r.1)), hc, r⟩
/-- a function has been made -/
structure MadeFn (B : Bs) (k : Nat) (s s' : Shared) (a : Addr) (name qual : Str) (params : Arguments) (body : FuncBody) (scope : Scope) (clos : List (Str × Addr)) (dV : Value) (pos : Pos) : Prop where
  stp : Stp B s s'
  new : s.heap.objs.size ≤ a
  obj : ∃ pm doc ctv c', s'.heap.get? a = some { cls := .type "function", data := .func (mkFd name qual params body scope clos dV pm doc ctv c') } ∧ GoodCode B s'.heap pos.line pos.col c' ∧ ∀ k', k = k' + 1 → ∀ P', CodeHd s'.heap c' P' → GoodTab B s'.heap k' P'
theorem mkTail {env : Env} {A : Around} {s : Shared} {c P : Addr} {k : Nat} {pos : Pos} {fl : Nat} {name qual : Str} {params : Arguments} {scope : Scope} {body : FuncBody} {clos : List (Str × Addr)} {dV : Value} (hb : Base B s.heap) (hg : env.globals = mainGlobals) (hcl : closureFor scope env = pure clos)
    (hc : env.code = .ref c) (hC : CodeHd s.heap c P) (hT : GoodTab B s.heap k P) (hm : B.mt P) (hq : B.qual pos.line pos.col = some qual) (hz : clos.length ≤ sizeLine) :
    wpAny (md B) A (makeTail name qual params body scope env dV .none none pos fl) (fun v s' => ∃ a, v = .ref a ∧ MadeFn B k s s' a name qual params body scope clos dV pos) noE s := by
  unfold makeTail
  rw [hcl, hg]
  refine wpAny_bind (wpAny_pure ?_)
  have tail : ∀ (ctv : Value) (s₁ : Shared), Stp B s s₁ → wpAny (md B) A (do
      let fd : FuncData := { name, qualname := qual, params, body, scope, globals := mainGlobals, closure := clos, closureTuple := ctv, code := ← functionCode env pos fl name qual params scope body, builtins := ← builtinsFor mainGlobals env.builtins, defaults := dV, kwdefaults := .none, annotations := none, pyModule := (← nsGet mainGlobals "__name__").getD .none, doc := ← match body with | .stmts b => (match docOf b with | some s => mkText s | none => pure .none) | .expr _ => pure .none }
      newObj (.type "function") (.func fd)) (fun v s' => ∃ a, v = .ref a ∧ MadeFn B k s s' a name qual params body scope clos dV pos) noE s₁ := by
    intro ctv s₁ p₁
    have hb₁ := hb.pres p₁.p
    refine wpAny_bind (wpMono (fcode hb₁ hc (CodeHd.keeps' hC p₁.p) (p₁.p.tab _ _ hT) hm hq) fun v s₂ ⟨c', e, p₂, g, n⟩ => ?_)
    subst e
    have hb₂ := hb₁.pres p₂.p
    obtain ⟨bm, ob, b1, b2, b3, b4, b5, b6⟩ := B.bmain
    refine wpAny_bind (wpAny_builtinsFor (B.g.keeps hb₂.keep) b1 b2 (hb₂.keep _ _ b3) b4 b5 b6 ?_)
    refine wpAny_bind (wpAny_nsGet (B.g.keeps hb₂.keep) ?_)
    have fin : ∀ (doc : Value) (s₃ : Shared), s₃.heap = s₂.heap → Rest s₂ s₃ → wpAny (md B) A (newObj (.type "function") (.func (mkFd name qual params body scope clos dV ((B.mg "__name__").getD .none) doc ctv c'))) (fun v s' => ∃ a, v = .ref a ∧ MadeFn B k s s' a name qual params body scope clos dV pos) noE s₃ := by
      intro doc s₃ e₃ r₃
      refine wpAny_newObj_type ⟨_, rfl, ⟨⟨(p₁.p.trans p₂.p).trans ?_, (p₁.r.trans p₂.r).trans ⟨r₃.1, r₃.2, r₃.3⟩⟩, ?_, _, doc, ctv, c', push_get rfl, ?_, ?_⟩⟩ (by size_fits)
      · rw [← e₃]; exact Pres.push _
      · rw [e₃]; exact (p₁.p.trans p₂.p).size
      · show GoodCode B (s₃.heap.push _) _ _ _
        rw [e₃]
        exact g.keep fun b o e _ => Heap.get?_push_of_some _ e
      · intro k' hk P' y
        have y' : CodeHd s₂.heap c' P' := by
          obtain ⟨_, _, o, _, _, _, eo, _⟩ := id g
          refine CodeHd.back eo ?_ y
          show (s₃.heap.push _).get? _ = _
          rw [e₃]; exact Heap.get?_push_of_some _ eo
        have := n k' hk P' y'
        show GoodTab B (s₃.heap.push _) _ _
        rw [e₃]
        exact (Pres.push (B := B) (F := none') _).tab _ _ this
    cases body with
    | expr e => exact wpAny_bind (wpAny_pure (fin .none s₂ rfl .refl))
    | stmts b =>
      dsimp only
      cases hdoc : docOf b with
      | none => exact wpAny_bind (wpAny_pure (fin .none s₂ rfl .refl))
      | some t => exact wpAny_bind (wpAny_mkText (fin _ _ rfl ⟨rfl, rfl, rfl⟩))
  cases clos with
  | nil =>
    simp only [List.isEmpty_nil, if_true]
    exact wpAny_bind (wpAny_pure (tail .none s .refl))
  | cons x r =>
    simp only [List.isEmpty_cons, Bool.false_eq_true, if_false]
    refine wpAny_bind (wpAny_newTextTuple (tail _ _ (.push _)) )
end Mine
open PySem PySem.W PyProof.Rows
set_option Elab.async false
set_option maxRecDepth 100000
set_option linter.unusedVariables false
set_option linter.unusedSimpArgs false
namespace Mine
open Builtin Builtin.ObjectAttr
variable {B : Bs} {C : Cx B} {ρ : Rho B} {μ : Mu B}
theorem slot_fn_setattr : Slot "function" "__setattr__" "object.__setattr__" := .of (owner := "object") (n := "__setattr__") (by rw [typeLookup_type, builtinLookup_eq_fast]; kernel_rfl) (by decide +kernel) (by decide +kernel) (by decide +kernel)
    (by first | exact .inl (by decide +kernel) | exact .inr (by decide +kernel)) (by rw [isSubtype_type]; kernel_rfl)
theorem slot_fn_getattr : Slot "function" "__getattribute__" "object.__getattribute__" := .of (owner := "object") (n := "__getattribute__") (by rw [typeLookup_type, builtinLookup_eq_fast]; kernel_rfl) (by decide +kernel) (by decide +kernel) (by decide +kernel)
    (by first | exact .inl (by decide +kernel) | exact .inr (by decide +kernel)) (by rw [isSubtype_type]; kernel_rfl)
theorem mro_fn : mroOf (.type "function") = pure [.type "function", .type "object"] := by kernel_rfl
theorem passes_fn (self : Value) : refuseLoop self "__setattr__" [.type "function", .type "object"] = pure () := by kernel_rfl
theorem inst_false {M : Model} {A : Around} {E : Value → Shared → Prop} {s : Shared} {a d : Addr} {o : Obj} {Q : Option Addr → Shared → Prop} (ho : s.heap.get? a = some o) (hc : o.cls = .type "function") (hd : o.dict = some d) (h : Q (some d) s) (cr : Bool) : wpAny M A (instanceDict a cr) Q E s := by
  unfold instanceDict
  refine wpAny_bind (wpAny_loadPart ho ?_)
  rw [hc, hd]
  exact wpAny_pure h
/-- a.name = v, a function without attributes so far -/
theorem set_fn_attr {A : Around} {E : Value → Shared → Prop} {s : Shared} {a : Addr} {o : Obj} {fd : FuncData} {name : Str} {v : Value} {Q : Unit → Shared → Prop} (ho : s.heap.get? a = some o) (hc : o.cls = .type "function") (hf : o.data = .func fd) (hd : o.dict = none)
    (hn : typeLookup (.type "function") name = pure none)
    (h : ∀ h' tk o', h'.get? a = some o' → o'.cls = .type "function" → o'.data = .func fd → o'.dict = some s.heap.objs.size → h'.Ns s.heap.objs.size (fun y => if y = name then some v else none) → (∀ b ob, b ≠ a → s.heap.get? b = some ob → h'.get? b = some ob) → s.heap.objs.size ≤ h'.objs.size → Q () { s with heap := h', toks := tk }) :
    wpAny (md B) A (setAttr (.ref a) name v) Q E s := by
  have hT : ∀ t, ({ s with toks := t } : Shared).TypeIs (.ref a) "function" := fun t => ⟨o, ho, hc⟩
  unfold setAttr
  refine wpAny_bind (wpAny_mkText (wpAny_bind ?_))
  refine wpAny_callSpecial?_slot (hT _) slot_fn_setattr (wpAny_call_entry slot_fn_setattr (hT _) PySem.F.store_object.entry ?_ (PySem.F.store_object.args _ _ _))
  rw [osa_eq, refuse_eq]
  refine wpAny_bind (wpAny_bind (wpAny_typeOf (hT _) (wpAny_bind ?_)))
  rw [mro_fn]
  refine wpAny_pure ?_
  rw [passes_fn]
  refine wpAny_pure (wpAny_bind (wpAny_typeOf (hT _) (wpAny_bind ?_)))
  rw [hn]
  refine wpAny_pure (wpAny_bind (wpAny_pure ?_))
  show wpAny _ _ (storeInOwnDict (.ref a) (.type "function") (.str name _) name v false) _ _ _
  unfold storeInOwnDict
  refine wpAny_bind (wpAny_pure ?_)
  rw [if_neg (by decide)]
  show wpAny _ _ (instanceDict a true >>= _) _ _ _
  unfold instanceDict
  obtain ⟨oc, od, odt, osl⟩ := o
  dsimp only at hc hf hd
  subst hc hf hd
  have hx₁ : (s.heap.push { cls := .type "dict", data := .dict #[] }).get? a = some ⟨.type "function", none, .func fd, osl⟩ := Heap.get?_push_of_some _ ho
  have hxs : a ≠ s.heap.objs.size := Nat.ne_of_lt (Heap.lt_size ho)
  refine wpAny_bind (wpAny_bind (wpAny_loadPart ho ?_))
  dsimp only
  rw [show typeHasDict (Value.type "function") = true from by decide +kernel]
  simp only [Bool.not_true, Bool.or_false, Bool.false_eq_true, if_false]
  refine wpAny_bind (wpAny_alloc' ?_)
  refine wpAny_bind (wpAny_update' hx₁ ?_)
  have hgd : ((s.heap.push { cls := .type "dict", data := .dict #[] }).update a fun o => { cls := o.cls, dict := some s.heap.objs.size, data := o.data, slots := o.slots }).get? s.heap.objs.size
      = some { cls := .type "dict", data := .dict #[] } :=
    (Heap.get?_update_ne _ _ _ _ hxs.symm).trans (Heap.get?_push_at rfl rfl)
  have hnd : ((s.heap.push { cls := .type "dict", data := .dict #[] }).update a fun o => { cls := o.cls, dict := some s.heap.objs.size, data := o.data, slots := o.slots }).Ns s.heap.objs.size (fun _ => none) :=
    ⟨_, #[], _, hgd, rfl, fun e he => absurd he (by simp), fun _ => rfl⟩
  refine wpAny_pure ?_
  show wpAny _ _ (storeInDict s.heap.objs.size (.str name _) name v) _ _ _
  unfold storeInDict newKeyGuard
  refine wpAny_bind (wpAny_pure (wpAny_bind (wpAny_nsSet1 (Heap.Ns1.of_empty hnd) fun h' hn' hs => ?_)))
  obtain ⟨oD, esD, epD, hoD, hdD, hcD⟩ := hn'.count (Within.cons name v Within.nil)
  refine wpAny_bind (wpAny_lookBehind hoD (by rw [hdD]; exact pastItsLine_dict (Nat.le_trans hcD (by rw [List.length_cons, List.length_nil, sizeLine_eq]; omega))) ?_)
  have hx' : h'.get? a = some ⟨.type "function", some s.heap.objs.size, .func fd, osl⟩ :=
    (hs.2 a hxs).trans (Heap.get?_update_self _ hx₁ (by have := (Heap.get?_some_iff.mp ho).2; first | rfl | exact this))
  refine wpAny_pure ⟨.none, rfl, wpAny_pure ?_⟩
  refine h h' _ _ hx' rfl rfl rfl hn'.ns (fun b ob hb e => ?_) ?_
  · exact (hs.2 b (Nat.ne_of_lt (Heap.lt_size e))).trans ((Heap.get?_update_ne _ _ _ _ hb).trans (Heap.get?_push_of_some _ e))
  · have := hs.1
    rw [this]
    show _ ≤ ((s.heap.push _).update a _).objs.size
    rw [Heap.size_update, Heap.size_push]; omega
end Mine
open PySem PySem.W PyProof.Rows
set_option Elab.async false
set_option maxRecDepth 100000
set_option linter.unusedVariables false
set_option linter.unusedSimpArgs false
namespace Mine
open Builtin Builtin.ObjectAttr
variable {B : Bs} {C : Cx B} {ρ : Rho B} {μ : Mu B}
theorem fn_noGetattr : typeLookup (.type "function") "__getattr__" = pure none := by rw [typeLookup_type, builtinLookup_eq_fast]; kernel_rfl
theorem fn_noSpan : typeLookup (.type "function") "span" = pure none := by rw [typeLookup_type, builtinLookup_eq_fast]; kernel_rfl
theorem fn_noSearch : typeLookup (.type "function") "search" = pure none := by rw [typeLookup_type, builtinLookup_eq_fast]; kernel_rfl
theorem fn_noBool : typeLookup (.type "function") "__bool__" = pure none := by rw [typeLookup_type, builtinLookup_eq_fast]; kernel_rfl
theorem fn_noLen : typeLookup (.type "function") "__len__" = pure none := by rw [typeLookup_type, builtinLookup_eq_fast]; kernel_rfl
theorem canon_obj_ga : (Manifest.canonical "object.__getattribute__" != "object.__getattribute__") = false := by decide +kernel
theorem ga_run {A : Around} {E : Value → Shared → Prop} {s : Shared} {a d w : Addr} {o : Obj} {m : Str → Option Value} {name : Str} {tk : Tok} {Q : Fin → Shared → Prop} (ho : s.heap.get? a = some o) (hc : o.cls = .type "function") {fd : FuncData} (hf : o.data = .func fd) (hd : o.dict = some d) (hm : s.heap.Ns d m) (hw : m name = some (.ref w))
    (hn : typeLookup (.type "function") name = pure none) (h : Q (.done (.ret (.ref w))) s) : wpAny (md B) A (Builtin.«object.__getattribute__» ⟨[.ref a, .str name tk], []⟩) Q E s := by
  have hT : s.TypeIs (.ref a) "function" := ⟨o, ho, hc⟩
  obtain ⟨k, e, hk⟩ : ∃ k : Value → Found → Sem Fin, Builtin.«object.__getattribute__» ⟨[.ref a, .str name tk], []⟩ = (typeOf (.ref a) >>= fun tp => find (.ref a) tp name >>= fun f => k tp f) ∧ ∀ tp v, k tp (.value v) = ret v := ⟨_, rfl, fun _ _ => rfl⟩
  rw [e]
  refine wpAny_bind (wpAny_typeOf hT (wpAny_bind ?_))
  unfold find
  rw [hn]
  refine wpAny_bind (wpAny_pure (wpAny_bind (wpAny_pure (wpAny_bind (wpAny_pure ?_)))))
  show wpAny _ _ (inOwnDict name (.ref a) >>= _) _ _ _
  refine wpAny_bind ?_
  show wpAny _ _ (ownDict a >>= fun d => inDict name d) _ _ _
  refine wpAny_bind (wpAny_bind (wpAny_loadPart ho ?_))
  rw [hf]
  refine inst_false ho hc hd ?_ false
  refine wpAny_nsGet hm ?_
  rw [hw]
  refine wpAny_bind (wpAny_rule (wpAny_pure ?_))
  first | exact wpAny_pure h | (show wpAny _ _ (k _ (.value _)) _ _ _; rw [hk]; exact wpAny_pure h)
theorem get_fn_attr {A : Around} {E : Value → Shared → Prop} {s : Shared} {a d w : Addr} {o : Obj} {m : Str → Option Value} {name : Str} {Q : Value → Shared → Prop} (ho : s.heap.get? a = some o) (hc : o.cls = .type "function") {fd : FuncData} (hf : o.data = .func fd) (hd : o.dict = some d) (hm : s.heap.Ns d m) (hw : m name = some (.ref w))
    (hn : typeLookup (.type "function") name = pure none) (h : ∀ tk, Q (.ref w) { s with toks := tk }) : wpAny (md B) A (getAttr (.ref a) name) Q E s := by
  have hT : ∀ t, ({ s with toks := t } : Shared).TypeIs (.ref a) "function" := fun t => ⟨o, ho, hc⟩
  unfold getAttr
  refine wpAny_bind (wpAny_mkText ?_)
  unfold getAttrBy
  refine wpAny_holding (wpAny_bind (wpAny_typeOf (hT _) (wpAny_bind ?_)))
  rw [slot_fn_getattr.lookup]
  refine wpAny_pure ?_
  dsimp only
  rw [if_neg (by decide)]
  unfold getAttrByItsOwn
  refine wpAny_bind (wpAny_pure (wpAny_bind (wpAny_attempt (wpAny_holding ?_))))
  show wpAny _ _ (boundAndCalled _ _ _) _ _ _
  unfold boundAndCalled
  rw [slot_fn_getattr.bind]
  refine wpAny_bind (wpAny_pure ?_)
  refine wpAny_call_entry slot_fn_getattr (hT _) F.entry_object_getattribute ?_ (by unfold argsOk; kernel_rfl)
  refine ga_run (s := { s with toks := _ }) ho hc hf hd hm hw hn ⟨_, rfl, ?_⟩
  exact wpAny_pure (h _)
theorem get_fn_meth {A : Around} {E : Value → Shared → Prop} {s : Shared} {a d w : Addr} {o : Obj} {m : Str → Option Value} {name : Str} {pl : Sem Bool} {Q : Value × List Value → Shared → Prop} (ho : s.heap.get? a = some o) (hc : o.cls = .type "function") {fd : FuncData} (hf : o.data = .func fd) (hd : o.dict = some d) (hm : s.heap.Ns d m) (hw : m name = some (.ref w))
    (hn : typeLookup (.type "function") name = pure none) (h : ∀ tk, Q (.ref w, []) { s with toks := tk }) : wpAny (md B) A (getMethod (.ref a) name pl) Q E s := by
  have hT : s.TypeIs (.ref a) "function" := ⟨o, ho, hc⟩
  unfold getMethod
  dsimp only
  refine wpAny_bind (wpAny_specialOf hT slot_fn_getattr.lookup ?_)
  dsimp only
  rw [if_neg (by rw [canon_obj_ga]; decide)]
  refine wpAny_bind (wpAny_specialOf hT fn_noGetattr ?_)
  rw [if_neg (by decide)]
  refine wpAny_bind (wpAny_specialOf hT hn ?_)
  exact wpAny_bind (get_fn_attr ho hc hf hd hm hw hn fun tk => wpAny_pure (h tk))
theorem truthy_fn {A : Around} {E : Value → Shared → Prop} {s : Shared} {a : Addr} {o : Obj} {Q : Bool → Shared → Prop} (ho : s.heap.get? a = some o) (hc : o.cls = .type "function") (h : Q true s) : wpAny (md B) A (truthy (.ref a)) Q E s := by
  have hT : s.TypeIs (.ref a) "function" := ⟨o, ho, hc⟩
  unfold truthy
  dsimp only
  refine wpAny_bind ?_
  unfold callSpecial?
  refine wpAny_bind (wpAny_specialOf hT fn_noBool (wpAny_pure ?_))
  refine wpAny_bind (wpAny_specialOf hT fn_noLen ?_)
  exact wpAny_pure h
end Mine
open PySem PySem.W PyProof.Rows
set_option Elab.async false
set_option maxRecDepth 100000
set_option linter.unusedVariables false
set_option linter.unusedSimpArgs false
namespace Mine
variable {B : Bs} {C : Cx B} {ρ : Rho B} {μ : Mu B}
theorem GoodCode.pres {F : Addr → Prop} {h h' : Heap} {l k : Nat} {c : Addr} (x : GoodCode B h l k c) (p : Pres B F h h') : GoodCode B h' l k c := by
  obtain ⟨q, hq, o, vs, t, P, e, hc, hd, hv, hh, hm⟩ := x
  refine ⟨q, hq, o, vs, t, P, p.obj _ _ e (.inr ⟨hc, _, hd⟩) (.inl (var_fields hc hd)), hc, hd, hv, ?_, hm⟩
  obtain ⟨o', vs', file, tf, flags, tg, inF, text, tt, e', hc', hd', r⟩ := hh
  exact ⟨o', vs', file, tf, flags, tg, inF, text, tt, p.obj _ _ e' (.inr ⟨hc', _, hd'⟩) (.inl (var_fields hc' hd')), hc', hd', r⟩
theorem GoodCode.tabs {F : Addr → Prop} {h h' : Heap} {l k kk : Nat} {c : Addr} (x : GoodCode B h l k c) (y : ∀ k', kk = k' + 1 → ∀ P', CodeHd h c P' → GoodTab B h k' P') (p : Pres B F h h') : ∀ k', kk = k' + 1 → ∀ P', CodeHd h' c P' → GoodTab B h' k' P' := fun k' hk P' z => by
  obtain ⟨q, hq, o, vs, t, P, e, hc, hd, _⟩ := id x
  exact p.tab _ _ (y k' hk P' (CodeHd.back e (p.obj _ _ e (.inr ⟨hc, _, hd⟩) (.inl (var_fields hc hd))) z))
/-- the defaults of a def: none, or one int -/
noncomputable def Dv (F : Addr → Prop) (h : Heap) (dV : Value) : Option Int → Prop
  | none => dV = .none
  | some i => ∃ t tk n, dV = .ref t ∧ ¬ F t ∧ h.get? t = some { cls := .type "tuple", data := .seq #[.int i tk] n }
theorem Dv.pres {F : Addr → Prop} {h h' : Heap} {dV : Value} {d : Option Int} (x : Dv F h dV d) (p : Pres B F h h') : Dv F h' dV d := by
  cases d with
  | none => exact x
  | some i => obtain ⟨t, tk, n, e, hF, g⟩ := x; exact ⟨t, tk, n, e, hF, p.obj _ _ g (.inl hF) (.inl rfl)⟩
theorem Dv.weak {F F' : Addr → Prop} {h : Heap} {dV : Value} {d : Option Int} (x : Dv F h dV d) (hw : ∀ b, F' b → F b ∨ h.get? b = none) : Dv F' h dV d := by
  cases d with
  | none => exact x
  | some i => obtain ⟨t, tk, n, e, hF, g⟩ := x; exact ⟨t, tk, n, e, fun q => (hw t q).elim hF fun z => (by rw [z] at g; cases g), g⟩
/-- a function as it was made -/
inductive PMade (k : Nat) (name qual : Str) (params : Arguments) (body : FuncBody) (scope : Scope) (clos : List (Str × Addr)) (d : Option Int) (pos : Pos) (B : Bs) (F : Addr → Prop) (h : Heap) (v : Value) : Prop
  | mk (a : Addr) (pm doc ctv : Value) (c' : Addr) (dV : Value) (e : v = .ref a) (hF : ¬ F a) (g : h.get? a = some { cls := .type "function", data := .func (mkFd name qual params body scope clos dV pm doc ctv c') }) (gc : GoodCode B h pos.line pos.col c')
    (gt : ∀ k', k = k' + 1 → ∀ P', CodeHd h c' P' → GoodTab B h k' P') (dv : Dv F h dV d)
noncomputable def pmade (k : Nat) (name qual : Str) (params : Arguments) (body : FuncBody) (scope : Scope) (clos : List (Str × Addr)) (d : Option Int) (pos : Pos) : Pd B where
  p F h v := PMade k name qual params body scope clos d pos B F h v
  mono := by rintro _ _ _ _ ⟨a, pm, doc, ctv, c', dV, e, hF, g, gc, gt, dv⟩ p; exact ⟨a, pm, doc, ctv, c', dV, e, hF, p.obj _ _ g (.inl hF) (.inl rfl), gc.pres p, gc.tabs gt p, dv.pres p⟩
  weak := by rintro _ _ _ _ ⟨a, pm, doc, ctv, c', dV, e, hF, g, gc, gt, dv⟩ hw; exact ⟨a, pm, doc, ctv, c', dV, e, fun q => (hw a q).elim hF fun z => (by rw [z] at g; cases g), g, gc, gt, dv.weak hw⟩
/-- the code object of the frame's text, and its table -/
noncomputable def Cod (C : Cx B) (k : Nat) : Prop := ∃ c P, C.env.code = .ref c ∧ CodeHd C.h₀ c P ∧ GoodTab B C.h₀ k P ∧ B.mt P
/-- each free name of an inner text is a cell of the frame -/
noncomputable def capt (C : Cx B) (names : List (Str × NameKind)) : Bool := names.all fun p => p.2 != .free || (C.stor p.1 && C.env.kindOf p.1 == some .cell)
theorem capt_some {F : Addr → Prop} {h : Heap} {names : List (Str × NameKind)} (f : Frm C F h ρ μ) (hc : capt C names = true) : ∀ n, (n, NameKind.free) ∈ names → (C.env.cells.lookup n).isSome = true := fun n hn => by
  have h1 := List.all_eq_true.mp hc _ hn
  simp only [bne_self_eq_false, Bool.false_or, Bool.and_eq_true, beq_iff_eq] at h1
  obtain ⟨c, v, hl, _⟩ := f.own n h1.1 h1.2
  rw [hl]; rfl
theorem made_of {F : Addr → Prop} {s s' : Shared} {k : Nat} {a : Addr} {name qual : Str} {params : Arguments} {body : FuncBody} {scope : Scope} {clos : List (Str × Addr)} {dV : Value} {d : Option Int} {pos : Pos} (hlt : ∀ b, F b → b < s.heap.objs.size)
    (m : MadeFn B k s s' a name qual params body scope clos dV pos) (dv : Dv F s.heap dV d) : (pmade (B := B) k name qual params body scope clos d pos).p F s'.heap (.ref a) := by
  obtain ⟨pm, doc, ctv, c', g, gc, gt⟩ := m.obj
  exact ⟨a, pm, doc, ctv, c', dV, rfl, fun q => absurd (hlt a q) (Nat.not_lt.mpr m.new), g, gc, gt, dv.pres m.stp.p.any⟩
theorem clOf_length {cells : List (Str × Addr)} : ∀ (names : List (Str × NameKind)) (acc : List (Str × Addr)), (clOf cells names acc).length ≤ names.length + acc.length
  | [], acc => by simp [clOf]
  | (n, k) :: r, acc => by
    unfold clOf
    split
    · have := clOf_length (cells := cells) r ((n, (cells.lookup n).getD 0) :: acc); simp only [List.length_cons] at *; omega
    · have := clOf_length (cells := cells) r acc; simp only [List.length_cons] at *; omega
theorem Ev.lam {args : Arguments} {body : Expr} {scope : Scope} {pos : Pos} {k : Nat} (hc : Cod C k) (hq : B.qual pos.line pos.col = some (C.env.qual ++ "<lambda>")) (hca : capt C scope.names = true := by rfl) (hz : scope.names.length ≤ 100 := by decide)
    (hd : defaultsOf args C.env = ([], []) := by rfl) (hkw : args.kwonlyargs = [] := by rfl) : Ev C ρ μ (.Lambda args body scope pos) (pmade k "<lambda>" (C.env.qual ++ "<lambda>") args (.expr body) scope (clOf C.env.cells scope.names []) Option.none pos) := fun F s f => by
  have e : eval (.Lambda args body scope pos) C.env = (do
    let (d, kd) := defaultsOf args C.env
    let dv ← evalAll d
    let kdv ← holding dv (evalAllOpt kd)
    makeFunction "<lambda>" (C.env.qual ++ "<lambda>") args (.expr body) scope C.env dv kdv [] pos pos.line) := by rfl
  rw [e, hd]
  refine wpAny_bind (wpAny_pure (wpAny_bind (wpAny_pure ?_)))
  rw [makeFunction_eq]
  simp only [List.zip_nil_right, List.filterMap_nil, List.isEmpty_nil, if_true, pure_bind]
  obtain ⟨c, P, h1, h2, h3, h4⟩ := hc
  refine wpMono (mkTail f.h f.glob (closureFor_eq (capt_some f hca)) h1 (CodeHd.keeps' h2 f.pres) (f.pres.tab _ _ h3) h4 hq (Nat.le_trans (clOf_length _ _) (Nat.le_trans (by simpa using hz) (by decide)))) fun v s' ⟨a, ev, m⟩ => ?_
  subst ev
  exact ⟨m.stp, made_of f.lt m rfl⟩
/-- an inner def, with one int as its default -/
theorem Ex1.def0 {name bind : Str} {a : List Arg} {body : List Stmt} {scope : Scope} {pos : Pos} {k : Nat} {i : Int} {n1 : Nat} {p1 : Pos} (hc : Cod C k) (hb : Sto C bind) (qual : Str) (hqn : qualnameIn C.env name bind = qual := by rfl) (hq : B.qual pos.line pos.col = some qual) (hca : capt C scope.names = true := by rfl) (hz : scope.names.length ≤ 100 := by decide)
    (han : annotationsOf a C.env = [] := by rfl) :
    Ex1 C ρ μ (.FunctionDef name { posonlyargs := [], args := a, vararg := none, kwonlyargs := [], kw_defaults := [], kwarg := none, defaults := [.Constant (.int i) n1 p1] } body [] none [] scope none bind pos)
      (.next (upd ρ bind (pmade k name qual { posonlyargs := [], args := a, vararg := none, kwonlyargs := [], kw_defaults := [], kwarg := none, defaults := [.Constant (.int i) n1 p1] } (.stmts body) scope (clOf C.env.cells scope.names []) (some i) pos)) μ) := fun F s f => by
  rw [PySem.arm_exec_FunctionDef]
  unfold defStmt
  refine wpAny_bind (wpAny_pure (wpAny_bind (wpAny_standAt (wpAny_bind (wpAny_holding ?_)))))
  have K : ∀ (s₁ : Shared) (tk : Tok), Stp B s s₁ → wpAny (md B) C.A (makeFunction name (qualnameIn C.env name bind) { posonlyargs := [], args := a, vararg := none, kwonlyargs := [], kw_defaults := [], kwarg := none, defaults := [.Constant (.int i) n1 p1] } (.stmts body) scope C.env [.int i tk] [] [] pos pos.line)
      (fun f' s₃ => wpAny (md B) C.A (do standAt pos; bindName C.env bind f'; pure Flow.next) (fun f s' => Rest s s' ∧ OutOk C F μ s.heap (Out.next (upd ρ bind (pmade k name qual { posonlyargs := [], args := a, vararg := none, kwonlyargs := [], kw_defaults := [], kwarg := none, defaults := [.Constant (.int i) n1 p1] } (.stmts body) scope (clOf C.env.cells scope.names []) (some i) pos)) μ) f s'.heap) noE s₃) noE s₁ := by
    intro s₁ tk p₁
    rw [makeFunction_eq]
    simp only [List.zip_nil_right, List.filterMap_nil, List.isEmpty_nil, List.isEmpty_cons, Bool.false_eq_true, if_false, if_true, pure_bind]
    refine wpAny_bind (wpAny_newTextTuple ?_)
    obtain ⟨c, P, h1, h2, h3, h4⟩ := hc
    have p₂ : Stp B s { s₁ with heap := s₁.heap.push { cls := .type "tuple", data := .seq [Value.int i tk].toArray } } := p₁.trans (.push _)
    have f₂ := f.step p₂.p
    refine wpMono (mkTail (dV := .ref s₁.heap.objs.size) f₂.h f.glob (closureFor_eq (capt_some f hca)) h1 (CodeHd.keeps' h2 f₂.pres) (f₂.pres.tab _ _ h3) h4 (hqn ▸ hq) (Nat.le_trans (clOf_length _ _) (Nat.le_trans (by simpa using hz) (by decide)))) fun v s' ⟨a', ev, m⟩ => ?_
    subst ev
    rw [hqn] at m
    have dv : Dv F (s₁.heap.push { cls := .type "tuple", data := .seq [Value.int i tk].toArray }) (.ref s₁.heap.objs.size) (some i) := ⟨_, tk, 0, rfl, fun q => absurd ((f.step p₁.p).lt _ q) (Nat.lt_irrefl _), push_get rfl⟩
    have p₃ := p₂.trans m.stp
    refine wpAny_bind (wpAny_standAt (wpAny_bind (wpAny_bindName (wpMono (st_any (f.step p₃.p) (made_of f₂.lt m dv) hb) fun _ s₄ ⟨r₄, h₄, p₄⟩ => wpAny_pure ⟨p₃.r.trans r₄, p₃.p.any.trans p₄, F, .same h₄⟩))))
  refine wpAny_bind ?_
  refine wpAny_bind (wpAny_Constant_int (wpAny_bind (wpAny_holding (wpAny_pure (wpAny_pure ?_)))))
  refine wpAny_bind (wpAny_holding (wpAny_pure (wpAny_holding ?_)))
  dsimp only
  rw [show annotationsOf (a ++ [] ++ Option.none.toList ++ [] ++ Option.none.toList) C.env = [] from by simpa using han]
  refine wpAny_bind (wpAny_pure ?_)
  refine wpMono (K _ _ .toks) fun f' s' h => ?_
  exact wpAny_bind (wpAny_pure h)
end Mine
open PySem PySem.W PyProof.Rows
set_option Elab.async false
set_option maxRecDepth 100000
set_option linter.unusedVariables false
set_option linter.unusedSimpArgs false
namespace Mine
variable {B : Bs} {C : Cx B} {ρ : Rho B} {μ : Mu B}
theorem callWith_fn {A : Around} {pos : Pos} {a : Addr} {first : List Value} {args : List (Bool × Sem Value)} {Q : Value → Shared → Prop} {E : Value → Shared → Prop} {s : Shared} (hp : args.any (·.1) = false)
    (h : wpAny (md B) A (spliced args) (fun vs s₁ => (∃ o fd, s₁.heap.get? a = some o ∧ o.data = .func fd) ∧ wpAny (md B) A (PySem.call (.ref a) (first ++ vs) []) Q E s₁) E s) : wpAny (md B) A (callWith pos (.ref a) first args []) Q E s := by
  unfold callWith
  refine wpAny_bind (wpAny_holding (evalArgs_any hp (wpAny_mono h (fun vs s₁ h₁ => wpAny_bind (wpAny_standAt ?_)) fun _ _ x => x)))
  obtain ⟨o, fd, ho, hd⟩ := h₁.1
  have tail : ∀ {t : Sem Value}, wpAny (md B) A t Q E s₁ → wpAny (md B) A (t >>= fun r => holding [r] point >>= fun _ => pure r) Q E s₁ :=
    fun ht => wpAny_bind (wpAny_mono ht (fun r s₂ hr => wpAny_bind (wpAny_holding (wpAny_point (wpAny_pure hr)))) fun _ _ x => x)
  simp only [hp, List.any_nil, Bool.or_false]
  refine wpAny_bind (m := keeperOf (.ref a)) ?_
  unfold keeperOf
  refine wpAny_bind (wpAny_load ho ?_)
  rw [hd]
  refine wpAny_pure ?_
  dsimp only
  split
  · exact tail h₁.2
  · exact tail (by unfold callMarked; exact PySem.Calls.wpAny_keep h₁.2)
/-- a function value that may be called so, now and later -/
noncomputable def pcall (n : Nat) (Ps : List (Pd B)) (R : Pd B) : Pd B where
  p F h v := (∃ a o fd, v = .ref a ∧ ¬ F a ∧ h.get? a = some o ∧ o.cls = .type "function" ∧ o.data = .func fd) ∧ ∀ F' A s vs, Pres B F h s.heap → Room n A → A.handled = none → Stk B A s.heap → Base B s.heap → (∀ b, F' b → b < s.heap.objs.size) → all2 F' s.heap Ps vs →
    wpAny (md B) A (PySem.call v vs []) (fun r s' => Stp B s s' ∧ R.p F' s'.heap r) noE s
  mono := by
    rintro F h h' v ⟨⟨a, o, fd, e, hF, g, hc, hd⟩, k⟩ p
    refine ⟨⟨a, o, fd, e, hF, p.obj _ _ g (.inl hF) (.inl (var_func hd)), hc, hd⟩, ?_⟩
    intro F' A s vs q
    exact k F' A s vs (p.trans q)
  weak := by
    rintro F F' h v ⟨⟨a, o, fd, e, hF, g, hc, hd⟩, k⟩ hw
    refine ⟨⟨a, o, fd, e, fun q => (hw a q).elim hF fun z => (by rw [z] at g; cases g), g, hc, hd⟩, ?_⟩
    intro F₁ A s vs q
    exact k F₁ A s vs ⟨fun b o e f t => q.obj b o e (f.imp (fun n r => (hw b r).elim n fun z => by rw [z] at e; cases e) id) t, fun b o e f t => q.frm b o e (fun r => (hw b r).elim f fun z => by rw [z] at e; cases e) t, q.tab, q.size⟩
noncomputable def pand (P Q : Pd B) : Pd B := ⟨fun F h v => P.p F h v ∧ Q.p F h v, fun x p => ⟨P.mono x.1 p, Q.mono x.2 p⟩, fun x w => ⟨P.weak x.1 w, Q.weak x.2 w⟩⟩
/-- a function object with one attribute -/
inductive PAttr (name : Str) (P : Pd B) (F : Addr → Prop) (h : Heap) (v : Value) : Prop
  | mk (a : Addr) (o : Obj) (fd : FuncData) (d : Addr) (m : Str → Option Value) (w : Value) (e : v = .ref a) (hF : ¬ F a) (g : h.get? a = some o) (hc : o.cls = .type "function") (hd : o.data = .func fd) (hdd : o.dict = some d) (hFd : ¬ F d) (hn : h.Ns d m) (hm : m name = some w) (hp : P.p F h w)
noncomputable def pattr (name : Str) (P : Pd B) : Pd B where
  p F h v := PAttr name P F h v
  mono := by rintro _ _ _ _ ⟨a, o, fd, d, m, w, e, hF, g, hc, hd, hdd, hFd, hns, hm, hp⟩ p; exact ⟨a, o, fd, d, m, w, e, hF, p.obj _ _ g (.inl hF) (.inl (var_func hd)), hc, hd, hdd, hFd, ns_pres hns hFd p, hm, P.mono hp p⟩
  weak := by rintro _ _ _ _ ⟨a, o, fd, d, m, w, e, hF, g, hc, hd, hdd, hFd, hn, hm, hp⟩ hw; exact ⟨a, o, fd, d, m, w, e, fun q => (hw a q).elim hF fun z => (by rw [z] at g; cases g), g, hc, hd, hdd, fun q => (hw d q).elim hFd fun z => (by obtain ⟨o', es, ep, e', _⟩ := hn; rw [z] at e'; cases e'), hn, hm, P.weak hp hw⟩
/-- o.name(args), o a function with that attribute -/
theorem Ev.callA {o : Expr} {name : Str} {apos pos : Pos} {args : List Expr} {Ps : List (Pd B)} {P Q : Pd B} {n : Nat} (ho : Ev C ρ μ o (pattr name Q)) (hQ : ∀ F h v, Q.p F h v → (pcall (B := B) n Ps P).p F h v) (ha : EvL C ρ μ args Ps) (hr : Room n C.A) (hh : C.A.handled = Option.none)
    (hn : typeLookup (.type "function") name = pure Option.none)
    (hbase : attributeBase o name C.env (eval o C.env) = eval o C.env := by rfl)
    (hfew : ((backTo pos (starEach args C.env)).all (fun x => !x.1) && (backToKw pos (keywordEach [] C.env)).all (fun x => x.1.isSome) && decide (args.length + ([] : List Keyword).length + (if ([] : List Keyword).isEmpty then 0 else 1) < 30)) = true := by rfl)
    (hline : (apos.endLine == pos.line) = true := by rfl) (hp : (backTo pos (starEach args C.env)).any (·.1) = false := by rfl) : Ev C ρ μ (.Call (.Attribute o name apos) args [] pos) P := fun F s f => by
  rw [PySem.arm_eval_Call, hbase]
  refine wpAny_bind (wpMono (ho F s f) fun ov s₁ ⟨p₁, h₁⟩ => ?_)
  obtain ⟨a, ob, fd, d, m, w, rfl, hF, g, hc, hd, hdd, hFd, hns, hm, hpw⟩ := h₁
  refine wpAny_bind (wpAny_standAt ?_)
  have hform : methodCallForm (args.length + ([] : List Keyword).length) (backTo pos (starEach args C.env)) (backToKw pos (keywordEach [] C.env)) = true := hfew
  have hpos : methodCallPos true o C.env apos pos = pure pos := by unfold methodCallPos; simp [hline]
  obtain ⟨⟨a', o', fd', rfl, hF', ho', hc', hd'⟩, k⟩ := hQ _ _ _ hpw
  unfold methodCall
  rw [hform]
  refine wpAny_bind (wpAny_holding (get_fn_meth g hc hd hdd hns hm hn fun tk => ?_))
  refine wpAny_bind (wpAny_of_eq hpos ?_)
  have p₁' : Stp B s { s₁ with toks := tk } := p₁.trans .toks
  refine callWith_fn hp (wpMono (ha F _ pos (f.step p₁'.p)) fun vs s₂ ⟨p₂, h₂⟩ => ?_)
  have f₂ := (f.step p₁'.p).step p₂.p
  exact ⟨⟨o', fd', p₂.p.obj _ _ ho' (.inl fun q => q) (.inl (var_func hd')), hd'⟩, wpMono (k F C.A s₂ vs p₂.p.any hr hh f₂.stack f₂.h f₂.lt h₂) fun r s₃ ⟨p₃, h₃⟩ => ⟨(p₁'.trans p₂).trans p₃, h₃⟩⟩
/-- a function is true -/
theorem truthy_attr {F : Addr → Prop} {A : Around} {s : Shared} {v : Value} {name : Str} {P : Pd B} (h : (pattr (B := B) name P).p F s.heap v) : wpAny (md B) A (truthy v) (fun b s' => Stp B s s' ∧ b = true) noE s := by
  obtain ⟨a, o, fd, d, m, w, rfl, hF, g, hc, _⟩ := h
  exact truthy_fn g hc ⟨.refl, rfl⟩
end Mine
open PySem PySem.W PyProof.Rows
set_option Elab.async false
set_option maxRecDepth 100000
set_option linter.unusedVariables false
set_option linter.unusedSimpArgs false
namespace Mine
variable {B : Bs} {C : Cx B} {ρ : Rho B} {μ : Mu B}
/-- the body of a function: what it gives back -/
noncomputable def Bod (C : Cx B) (ρ : Rho B) : FuncBody → Pd B → Prop
  | .stmts sts, P => Ex C ρ (fun _ => none) sts (.ret P)
  | .expr e, P => Ev C ρ (fun _ => none) e P
theorem GoodCode.rec {h : Heap} {l k : Nat} {c : Addr} {q : Str} (x : GoodCode B h l k c) (hq : B.qual l k = some q) : h.CodeRec (.ref c) q := by
  obtain ⟨q', hq', o, vs, t, P, e, hc, hd, hv, _⟩ := x
  rw [hq] at hq'; cases hq'
  exact ⟨c, o, vs, t, rfl, e, hd, hv⟩
theorem clo_call {A : Around} {F : Addr → Prop} {s : Shared} {fd : FuncData} {a : Addr} {o : Obj} {ρ₀ : Rho B} {xs : List Str} {vs vs' : List Value} {Ps : List (Pd B)} {P : Pd B} {n : Nat}
    (ho : s.heap.get? a = some o) (hd : o.data = .func fd) (hcd : s.heap.CodeRec fd.code fd.qualname) (hr : Room (n + 1) A) (hst : Stk B A s.heap) (hb : Base B s.heap) (hlt : ∀ b, F b → b < s.heap.objs.size)
    (hbind : ∀ Q : List (Str × Value) → Shared → Prop, Q (xs.zip vs') s → wpAny (md B) A.in1 (bindArgs fd ⟨vs, []⟩) Q noE s)
    (hk : fd.scope.kind = .function) (hg : fd.globals = mainGlobals) (hbl : fd.builtins = builtinsNs) (hco : fd.scope.isCoroutine = false) (hgen : fd.scope.isGenerator = false)
    (hlen : xs.length = vs'.length) (hvs : all2 F s.heap Ps vs') (hxs : ∀ x ∈ xs, fd.scope.names.lookup x = some .local ∨ fd.scope.names.lookup x = some .cell)
    (hcl : ∀ p ∈ fd.closure, p.2 < s.heap.objs.size) (hap : fd.closure.Pairwise fun x y => x.2 ≠ y.2)
    (hρ : ∀ x P, ρ₀ x = some P → fd.scope.names.lookup x = some .free ∧ ∃ c v, (cellsFrom (s.heap.objs.size + 1) fd.scope.names fd.closure).lookup x = some c ∧ s.heap.IsCell c (some v) ∧ P.p F s.heap v)
    (hex : Bod (mkC B A s.heap fd a) (updL ρ₀ xs Ps) fd.body P) : wpAny (md B) A (PySem.call (.ref a) vs []) (fun r s' => Stp B s s' ∧ P.p F s'.heap r) noE s := by
  have hroom : A.depth < recursionLimit := by have := hr.depth; show A.depth < 1000; omega
  cases hbody : fd.body with
  | stmts body =>
    rw [hbody] at hex
    refine wpAny_call (codeAny_call_function hroom ho hd hco hgen hbody hcd ?_)
    refine wpAny_mono (hbind _ ?_) (fun _ _ x => x) fun _ _ x => x.elim
    refine wpMono (enter (A := A) (ρ₀ := ρ₀) hb hst hlt hk hg hbl hlen hvs hxs hcl hap hρ) fun env s₂ h₂ => ?_
    obtain ⟨rfl, r₂, F', hF, hF', f₂⟩ := h₂
    refine ⟨f₂.h.nolimit, codeAny_func (wpMono (hex F' s₂ f₂) fun f s₃ ⟨r₃, _, h₃⟩ => ?_)⟩
    cases f with
    | ret v => exact ⟨⟨h₃.1, r₂.trans r₃⟩, P.weak h₃.2 fun b q => .inl ⟨hF b q, hlt b q⟩⟩
    | next => exact h₃.elim
    | brk => exact h₃.elim
    | cont => exact h₃.elim
  | expr body =>
    rw [hbody] at hex
    refine wpAny_call (kla_callFunE hroom ho hd hco hgen hbody hcd ?_)
    refine wpAny_mono (hbind _ ?_) (fun _ _ x => x) fun _ _ x => x.elim
    refine wpMono (enter (A := A) (ρ₀ := ρ₀) hb hst hlt hk hg hbl hlen hvs hxs hcl hap hρ) fun env s₂ h₂ => ?_
    obtain ⟨rfl, r₂, F', hF, hF', f₂⟩ := h₂
    refine ⟨f₂.h.nolimit, kla_codeExpr (wpMono (hex F' s₂ f₂) fun v s₃ ⟨p₃, h₃⟩ => ?_)⟩
    exact ⟨⟨f₂.pres.trans p₃.p, r₂.trans p₃.r⟩, P.weak h₃ fun b q => .inl (hF b q)⟩
/-- a value that leans on nothing in the heap -/
noncomputable def Lasts (P : Pd B) : Prop := ∀ F h v, P.p F h v → ∀ F' h', P.p F' h' v
theorem lasts_int {i : Int} : Lasts (pint (B := B) i) := fun F h v x F' h' => by obtain ⟨t, rfl⟩ := int_of x; exact of_int
/-- what a made function does when it is called, in a heap where the frame that made it is gone -/
theorem Frm.made {F : Addr → Prop} {h : Heap} {ρ₀ : Rho B} {k : Nat} {v : Value} {name qual : Str} {params : Arguments} {body : FuncBody} {scope : Scope} {d : Option Int} {pos : Pos} {xs : List Str} {Ps Ps' : List (Pd B)} {P : Pd B} {n : Nat}
    (f : Frm C F h ρ μ) (hv : (pmade (B := B) k name qual params body scope (clOf C.env.cells scope.names []) d pos).p F h v) (hq : B.qual pos.line pos.col = some qual)
    (hca : capt C scope.names = true) (hnd : (scope.names.map (·.1)).Nodup) (hk : scope.kind = .function) (hco : scope.isCoroutine = false) (hgen : scope.isGenerator = false)
    (hρ : ∀ x P, ρ₀ x = some P → scope.names.lookup x = some .free ∧ ρ x = some P ∧ Lasts P)
    (hxs : ∀ x ∈ xs, scope.names.lookup x = some .local ∨ scope.names.lookup x = some .cell) (hlen : xs.length = Ps'.length)
    (hbind : ∀ F s A dV pm doc ctv c' vs, (∀ b, F b → b < s.heap.objs.size) → Dv (fun _ => False) s.heap dV d → all2 F s.heap Ps vs → ∃ vs', all2 F s.heap Ps' vs' ∧ ∀ Q : List (Str × Value) → Shared → Prop, Q (xs.zip vs') s → wpAny (md B) A (bindArgs (mkFd name qual params body scope (clOf C.env.cells scope.names []) dV pm doc ctv c') ⟨vs, []⟩) Q noE s)
    (hex : ∀ A h₀ a dV pm doc ctv c', Room (n + 1) A → A.handled = none → Base B h₀ → (∀ k', k = k' + 1 → Cod (mkC B A h₀ (mkFd name qual params body scope (clOf C.env.cells scope.names []) dV pm doc ctv c') a) k') →
      Bod (mkC B A h₀ (mkFd name qual params body scope (clOf C.env.cells scope.names []) dV pm doc ctv c') a) (updL ρ₀ xs Ps') body P) : (pcall (B := B) (n + 1) Ps P).p (low F C.h₀.objs.size) h v := by
  have hv' : (pmade (B := B) k name qual params body scope (clOf C.env.cells scope.names []) d pos).p (low F C.h₀.objs.size) h v := Pd.weak _ hv fun b q => .inl q.1
  have hcells : ∀ x, (x, NameKind.free) ∈ scope.names → ∃ c u, C.env.cells.lookup x = some c ∧ C.h₀.objs.size ≤ c ∧ h.IsCell c u := fun x q => by
    have h1 := List.all_eq_true.mp hca _ q
    simp only [bne_self_eq_false, Bool.false_or, Bool.and_eq_true, beq_iff_eq] at h1
    obtain ⟨c, u, hl, _, h0, hc⟩ := f.own x h1.1 h1.2
    exact ⟨c, u, hl, h0, hc⟩
  have hcl : ∀ p ∈ clOf C.env.cells scope.names [], p.2 < h.objs.size := fun p hp => by
    rcases mem_clOf hp with q | q
    · cases q
    · obtain ⟨c, u, hl, h0, ⟨o, e, _⟩⟩ := hcells _ q.1
      rw [q.2, hl]; exact Heap.lt_size e
  have hap : (clOf C.env.cells scope.names []).Pairwise fun x y => x.2 ≠ y.2 := nodup_clOf (I := f.inj) hnd (fun n hn => by obtain ⟨c, _, hl, _⟩ := hcells n hn; rw [hl]; rfl) (fun p hp => nomatch hp) .nil
  have hcf : ∀ x P, ρ₀ x = some P → ∃ c u, (clOf C.env.cells scope.names []).lookup x = some c ∧ C.h₀.objs.size ≤ c ∧ h.IsCell c (some u) ∧ P.p F h u := fun x P hx => by
    obtain ⟨hl, hr, _⟩ := hρ x P hx
    have hm := mem_of_lookup hl
    have h1 := List.all_eq_true.mp hca _ hm
    simp only [bne_self_eq_false, Bool.false_or, Bool.and_eq_true, beq_iff_eq] at h1
    obtain ⟨c, u, hcl, hc, hp⟩ := f.cel x P hr (.inl h1.2)
    obtain ⟨c2, u2, hcl2, _, h0, _⟩ := f.own x h1.1 h1.2
    rw [hcl] at hcl2; cases hcl2
    obtain ⟨c', hc'⟩ := Option.isSome_iff_exists.mp (lookup_clOf (cells := C.env.cells) (acc := []) (.inl hm))
    rcases mem_clOf (mem_of_lookup hc') with r | r
    · cases r
    · have r2 : c' = (C.env.cells.lookup x).getD 0 := r.2
      have r3 : c' = c := by rw [r2, hcl]; rfl
      subst r3
      exact ⟨c', u, hc', h0, hc, hp⟩
  obtain ⟨a, pm, doc, ctv, c', dV, rfl, hFa, g, gc, gt, dv⟩ := id hv'
  refine ⟨⟨a, _, _, rfl, hFa, g, rfl, rfl⟩, ?_⟩
  intro F' A s vs p hr hh hst hb hlt hvs
  have g' := p.obj _ _ g (.inl hFa) (.inl rfl)
  have gc' := gc.pres p
  have gt' := gc.tabs gt p
  have dv' : Dv (fun _ => False) s.heap dV d := (dv.pres p).weak fun b q => q.elim
  obtain ⟨vs', hvs', hbd⟩ := hbind F' s A.in1 dV pm doc ctv c' vs hlt dv' hvs
  refine clo_call g' rfl (GoodCode.rec gc' hq) hr hst hb hlt hbd hk rfl rfl hco hgen (by rw [hlen, hvs'.length]) hvs' hxs (fun q hq => Nat.lt_of_lt_of_le (hcl q hq) p.size) hap (ρ₀ := ρ₀) (fun x P hx => ?_) (hex A s.heap a dV pm doc ctv c' hr hh hb fun k' hk' => ?_)
  · obtain ⟨hl, _, hL⟩ := hρ x P hx
    obtain ⟨c, u, h1, h2, ⟨oc, e, ed⟩, h4⟩ := hcf x P hx
    refine ⟨hl, c, u, ?_, cell_pres ⟨oc, e, ed⟩ (fun q => Nat.lt_irrefl _ (Nat.lt_of_lt_of_le q.2 h2)) p, hL _ _ _ h4 _ _⟩
    rw [lookup_cellsFrom_other fun r => by have := lookup_mem_nodup hnd r; simp only at this; rw [hl] at this; cases this]
    exact h1
  · obtain ⟨q, hq', o, vs₁, t, P', e, hc, hd, hvv, hh', hm⟩ := id gc'
    exact ⟨c', P', rfl, hh', gt' k' hk' P' hh', hm⟩
end Mine
open PySem PySem.W PyProof.Rows
set_option Elab.async false
set_option maxRecDepth 100000
set_option linter.unusedVariables false
set_option linter.unusedSimpArgs false
namespace Mine
variable {B : Bs} {C : Cx B} {ρ : Rho B} {μ : Mu B}
theorem Pres.thenX {F : Addr → Prop} {h h₁ h' : Heap} {L : Addr} {o : Obj} (x : Pres B F h h₁) (hs : Heap.ExtBut L h₁ h') (hz : h₁.objs.size ≤ h'.objs.size) (hL : h.get? L = none) (e : h₁.get? L = some o) (hp : plainObj o) : Pres B F h h' :=
  ⟨fun b o' e' f t => hs b o' (fun q => by rw [q, hL] at e'; cases e') (x.obj b o' e' f t), fun b o' e' f t => by obtain ⟨sl, e''⟩ := x.frm b o' e' f t; exact ⟨sl, hs b _ (fun q => by rw [q, hL] at e'; cases e') e''⟩, fun k b g => (Pres.extBut (B := B) (F := fun b => b = L) hs (fun o' e' => ⟨by rw [e] at e'; cases e'; exact hp, rfl⟩) hz).tab k b (x.tab k b g), Nat.le_trans x.size hz⟩
/-- a new function object -/
noncomputable def EvF (C : Cx B) (ρ : Rho B) (μ : Mu B) (e : Expr) : Prop := ∀ F s, Frm C F s.heap ρ μ → wpAny (md B) C.A (eval e C.env) (fun v s' => Stp B s s' ∧ ∃ a fd, v = .ref a ∧ s.heap.objs.size ≤ a ∧ s'.heap.get? a = some { cls := .type "function", data := .func fd }) noE s
theorem EvF.lam {args : Arguments} {body : Expr} {scope : Scope} {pos : Pos} {k : Nat} (hc : Cod C k) (hq : B.qual pos.line pos.col = some (C.env.qual ++ "<lambda>")) (hca : capt C scope.names = true := by rfl) (hz : scope.names.length ≤ 100 := by decide)
    (hd : defaultsOf args C.env = ([], []) := by rfl) (hkw : args.kwonlyargs = [] := by rfl) : EvF C ρ μ (.Lambda args body scope pos) := fun F s f => by
  have e : eval (.Lambda args body scope pos) C.env = (do
    let (d, kd) := defaultsOf args C.env
    let dv ← evalAll d
    let kdv ← holding dv (evalAllOpt kd)
    makeFunction "<lambda>" (C.env.qual ++ "<lambda>") args (.expr body) scope C.env dv kdv [] pos pos.line) := by rfl
  rw [e, hd]
  refine wpAny_bind (wpAny_pure (wpAny_bind (wpAny_pure ?_)))
  rw [makeFunction_eq]
  simp only [List.zip_nil_right, List.filterMap_nil, List.isEmpty_nil, if_true, pure_bind]
  obtain ⟨c, P, h1, h2, h3, h4⟩ := hc
  refine wpMono (mkTail f.h f.glob (closureFor_eq (capt_some f hca)) h1 (CodeHd.keeps' h2 f.pres) (f.pres.tab _ _ h3) h4 hq (Nat.le_trans (clOf_length _ _) (Nat.le_trans (by simpa using hz) (by decide)))) fun v s' ⟨a, ev, m⟩ => ?_
  subst ev
  obtain ⟨pm, doc, ctv, c', g, _⟩ := m.obj
  exact ⟨m.stp, a, _, rfl, m.new, g⟩
/-- x = lambda ..; x.attr = e; return x -/
theorem Ex.attrRet {x attr : Str} {px px2 px3 pat p1 p2 p3 : Pos} {lam e : Expr} {P Q : Pd B} (hl : EvF C ρ μ lam) (hk : Sto C x) (he : ∀ a, Ev C (upd ρ x (pv (.ref a))) μ e P)
    (hc : ∀ F h w a, Frm C F h (upd ρ x (pv (.ref a))) μ → P.p F h w → Q.p (low F C.h₀.objs.size) h w)
    (hn : typeLookup (.type "function") attr = pure none) (hd : (x == ("__debug__" : Str)) = false := by decide) (hcd : (x == ("__classdict__" : Str)) = false := by decide)
    (hs : swapsWith lam (some (.Name x px)) p1.line C.env = pure false := by rfl) (hs2 : swapsWith e (some (.Attribute (.Name x px2) attr pat)) p2.line C.env = pure false := by rfl) :
    Ex C ρ μ [.Assign [.Name x px] lam p1, .Assign [.Attribute (.Name x px2) attr pat] e p2, .Return (some (.Name x px3)) p3] (.ret (pattr attr Q)) := fun F s f => by
  refine wpAny_execs_cons (wpAny_Assign_Name (wpMono (hl F s f) fun v s₁ ⟨p₁, a, fd, ev, ha, hg⟩ => ?_) hs)
  subst ev
  have hfree : s.heap.get? a = none := Heap.get?_none_of_le ha
  have f₁ := f.grow (F' := fun b => F b ∨ b = a) p₁.p (fun b q => q.imp id fun q => by rw [q]; exact hfree) (fun b q => .inl q) fun b q => q.elim (fun q => Nat.lt_of_lt_of_le (f.lt b q) p₁.p.size) fun q => by rw [q]; exact Heap.lt_size hg
  have hm : ¬ Mut C μ a := fun q => Nat.lt_irrefl _ (Nat.lt_of_lt_of_le (f.lt a (f.mutF q)) ha)
  refine wpMono (st_any (P := pv (.ref a)) f₁ rfl hk) fun _ s₂ ⟨r₂, f₂, p₂⟩ => ?_
  have g₂ := p₂.obj _ _ hg (.inl hm) (.inl rfl)
  refine wpAny_execs_cons (plainObj_wpAny_Assign_Attribute (wpMono (he a _ s₂ f₂) fun w s₃ ⟨p₃, h₃⟩ => ?_) hs2)
  have f₃ := f₂.step p₃.p
  have g₃ := p₃.p.obj _ _ g₂ (.inl fun q => q) (.inl rfl)
  refine wpMono (Ev.name (P := pv (.ref a)) (if_pos rfl) hd hcd _ s₃ f₃) fun ov s₄ ⟨p₄, e₄⟩ => ?_
  obtain rfl : ov = .ref a := e₄
  have f₄ := f₃.step p₄.p
  have g₄ := p₄.p.obj _ _ g₃ (.inl fun q => q) (.inl rfl)
  have h₄ := P.mono h₃ p₄.p.any
  refine set_fn_attr (B := B) g₄ rfl rfl rfl hn fun h' tk o' e1 e2 e3 e4 e5 e6 e7 => ?_
  have hx : Heap.ExtBut a s₄.heap h' := fun b ob hb e => e6 b ob hb e
  have pl : ∀ o, s₄.heap.get? a = some o → plainObj o := fun o e => by rw [g₄] at e; cases e; exact plain_func rfl
  have h0 : C.h₀.get? a = none := Heap.get?_none_of_le (Nat.le_trans f.pres.size ha)
  have f₅ : Frm C (fun b => F b ∨ b = a) h' (upd ρ x (pv (.ref a))) μ := f₄.touch hx e7 (.inr rfl) hm h0 pl (fun c v ⟨oc, ec, dc⟩ q => by subst q; rw [g₄] at ec; cases ec; cases dc)
  have pF : Pres B (fun b => F b ∨ b = a) s₄.heap h' := .extBut hx (fun o e => ⟨pl o e, .inr rfl⟩) e7
  refine wpAny_execs_cons (wpAny_Return_some (wpMono (Ev.name (P := pv (.ref a)) (if_pos rfl) hd hcd _ { s₄ with heap := h', toks := tk } f₅) fun rv s₆ ⟨p₆, e₆⟩ => ?_))
  obtain rfl : rv = .ref a := e₆
  have f₆ := f₅.step p₆.p
  refine ⟨⟨p₆.r.1.trans (p₄.r.1.trans (p₃.r.1.trans (r₂.1.trans p₁.r.1))), p₆.r.2.trans (p₄.r.2.trans (p₃.r.2.trans (r₂.2.trans p₁.r.2))), p₆.r.3.trans (p₄.r.3.trans (p₃.r.3.trans (r₂.3.trans p₁.r.3)))⟩, ?_, f₆.pres, ?_⟩
  · exact (Pres.thenX (((p₁.p.any.trans p₂).trans p₃.p.any).trans p₄.p.any) hx e7 hfree g₄ (plain_func rfl)).trans p₆.p.any
  · obtain ⟨oc, od, odt, osl⟩ := o'
    dsimp only at e2 e3 e4
    subst e2 e3 e4
    obtain ⟨od', es, ep, q1, q2, q3⟩ := e5
    have hh0 : C.h₀.objs.size ≤ s₄.heap.objs.size := f₄.pres.size
    refine ⟨a, _, fd, s₄.heap.objs.size, _, w, rfl, fun q => Nat.lt_irrefl _ (Nat.lt_of_lt_of_le q.2 (Nat.le_trans f.pres.size ha)), p₆.p.obj _ _ e1 (.inl fun q => q) (.inl rfl), rfl, rfl, rfl, fun q => Nat.lt_irrefl _ (Nat.lt_of_lt_of_le q.2 hh0), ns_pres ⟨od', es, ep, q1, q2, q3⟩ (fun q => q) p₆.p, if_pos rfl, ?_⟩
    have := hc _ _ w a f₆ (P.mono (P.mono h₄ pF) p₆.p.any)
    exact Q.weak this fun b q => .inl ⟨.inl q.1, q.2⟩
end Mine
open PySem PySem.W PyProof.Rows
set_option Elab.async false
set_option maxRecDepth 100000
set_option linter.unusedVariables false
set_option linter.unusedSimpArgs false
namespace Mine
open Builtin Builtin.Str Builtin.BaseException Builtin.Exceptions
variable {B : Bs} {C : Cx B} {ρ : Rho B} {μ : Mu B}
/-- an exception of the class Cl, with one text as its argument -/
inductive PExc (Cl : Addr) (R : Str) (F : Addr → Prop) (h : Heap) (v : Value) : Prop
  | mk (e : Addr) (o : Obj) (vs : Array Value) (t : Addr) (tk : Tok) (ev : v = .ref e) (hF : ¬ F e) (g : h.get? e = some o) (hc : o.cls = .ref Cl) (hd : o.data = .fields vs) (h0 : vs[0]? = some (.ref t)) (hFt : ¬ F t) (ht : h.TupAt t [.str R tk])
noncomputable def pexc (Cl : Addr) (R : Str) : Pd B where
  p F h v := PExc Cl R F h v
  mono := by rintro _ _ _ _ ⟨e, o, vs, t, tk, ev, hF, g, hc, hd, h0, hFt, ⟨ot, n, gt, ct, dt⟩⟩ p; exact ⟨e, o, vs, t, tk, ev, hF, p.obj _ _ g (.inl hF) (.inl (by unfold isVar isTab isFrm; rw [hc, hd]; rfl)), hc, hd, h0, hFt, ⟨ot, n, p.obj _ _ gt (.inl hFt) (.inl (by unfold isVar isTab isFrm; rw [ct, dt]; rfl)), ct, dt⟩⟩
  weak := by rintro _ _ _ _ ⟨e, o, vs, t, tk, ev, hF, g, hc, hd, h0, hFt, ⟨ot, n, gt, ct, dt⟩⟩ hw; exact ⟨e, o, vs, t, tk, ev, fun q => (hw e q).elim hF fun z => (by rw [z] at g; cases g), g, hc, hd, h0, fun q => (hw t q).elim hFt fun z => (by rw [z] at gt; cases gt), ⟨ot, n, gt, ct, dt⟩⟩
section
variable {prog : Program} {w : World} {K : Frag} {A : Around} {E : Value → Shared → Prop} {s : Shared} {e t Cl : Addr} {o : Obj} {vs : Array Value} {m : Str} {tk : Tok}
theorem bexcArgs_own {M : Model} {items : List Value} {Q : Value × List Value → Shared → Prop} (ho : s.heap.get? e = some o) (hd : o.data = .fields vs) (h0 : vs[0]? = some (.ref t)) (ht : s.heap.TupAt t items) (hq : Q (.ref t, items) s) :
    wpAny M A (bexcArgs (.ref e)) Q E s := by
  obtain ⟨ot, k, hto, _, htd⟩ := ht
  unfold bexcArgs
  refine wpAny_bind (wpAny_field ho hd h0 (wpAny_bind (wpAny_seqItems hto htd ?_)))
  have : items.toArray.toList = items := by simp
  show wpAny M A (pure (Value.ref t, items.toArray.toList)) Q E s
  rw [this]; exact wpAny_pure hq
theorem bexcStr_own {Q : Fin → Shared → Prop} (ho : s.heap.get? e = some o) (hd : o.data = .fields vs) (h0 : vs[0]? = some (.ref t)) (ht : s.heap.TupAt t [.str m tk]) (hq : Q (.done (.ret (.str m tk))) s) :
    wpAny (model prog w) A (Builtin.«BaseException.__str__» ⟨[.ref e], []⟩) Q E s := by
  unfold Builtin.«BaseException.__str__»
  repeat (first | with_reducible refine bexcArgs_own ho hd h0 ht ?_ | wp_step)
  exact hq
theorem bexc_kind : builtinKind "BaseException.__str__" = some .slot := by decide +kernel
theorem bexc_split : splitId "BaseException.__str__" = some ("BaseException", "__str__") := by decide +kernel
theorem slot_exc_str : Slot "Exception" "__str__" "BaseException.__str__" := .of (owner := "BaseException") (n := "__str__") (by rw [typeLookup_type, builtinLookup_eq_fast]; kernel_rfl) (by decide +kernel) (by decide +kernel) (by decide +kernel)
    (by first | exact .inl (by decide +kernel) | exact .inr (by decide +kernel)) (by rw [isSubtype_type]; kernel_rfl)
theorem call_bexcStr_own {Q : Value → Shared → Prop} (X : K.In s.heap) (ho : s.heap.get? e = some o) (hc : o.cls = .ref Cl) (hd : o.data = .fields vs) (h0 : vs[0]? = some (.ref t)) (ht : s.heap.TupAt t [.str m tk])
    (hs : subIn K (.ref Cl) (.type "BaseException") = some true) (hq : Q (.str m tk) s) : wpAny (model prog w) A (PySem.call (.builtin "BaseException.__str__") [.ref e]) Q E s := by
  have ty : Looks (model prog w) s.heap (typeOf (.ref e)) (.ref Cl) := by
    rw [← hc]; exact (Looks.ld ho).andThen .now
  have hi : Looks (model prog w) s.heap (isInstance (.ref e) (.type "BaseException")) true := ty.andThen (looks_subIn X hs)
  refine wpAny_call (codeAny_call_builtin slot_exc_str.plain F.entry_bexc_str (@check_slot (model prog w) _ _ s "BaseException.__str__" "BaseException" "__str__" (.ref e) [] [] _ bexc_kind bexc_split hi (F.args_bexc_str _) ?_))
  exact bexcStr_own ho hd h0 ht hq
theorem strOf_own {Q : Value → Shared → Prop} (hu : A.units < cLine) (X : K.In s.heap) (ho : s.heap.get? e = some o) (hc : o.cls = .ref Cl) (hd : o.data = .fields vs) (h0 : vs[0]? = some (.ref t)) (ht : s.heap.TupAt t [.str m tk])
    (hs : subIn K (.ref Cl) (.type "BaseException") = some true) (hl : findIn K (.ref Cl) "__str__" = some (some (.builtin "BaseException.__str__"))) (hq : Q (.str m tk) s) : wpAny (model prog w) A (Builtin.Str.strOf (.ref e)) Q E s := by
  have ty : Looks (model prog w) s.heap (typeOf (.ref e)) (.ref Cl) := by
    rw [← hc]; exact (Looks.ld ho).andThen .now
  have cs : ∀ {Q : Option Value → Shared → Prop}, Q (some (.str m tk)) s → wpAny (model prog w) A (callSpecial? (.ref e) "__str__") Q E s := fun {Q} hq => by
    unfold callSpecial?
    refine wpAny_bind ((ty.andThen (looks_findIn X hl)) _ _ _ s (fun _ _ z => z) ?_)
    dsimp only
    refine wpAny_holding (wpAny_bind ?_)
    rw [slot_exc_str.bind]
    exact wpAny_pure (wpAny_bind (call_bexcStr_own X ho hc hd h0 ht hs (wpAny_pure hq)))
  unfold Builtin.Str.strOf
  repeat (first | with_reducible refine wpAny_cRoomFor hu ?_ | with_reducible refine cs ?_ | wp_step)
  exact hq
theorem str_of_own {Q : Value → Shared → Prop} (hu : A.units + 2 < cLine) (X : K.In s.heap) (ho : s.heap.get? e = some o) (hc : o.cls = .ref Cl) (hd : o.data = .fields vs) (h0 : vs[0]? = some (.ref t)) (ht : s.heap.TupAt t [.str m tk])
    (hs : subIn K (.ref Cl) (.type "BaseException") = some true) (hl : findIn K (.ref Cl) "__str__" = some (some (.builtin "BaseException.__str__"))) (hq : Q (.str m tk) s) : wpAny (model prog w) A (PySem.call (.type "str") [.ref e]) Q E s :=
  callType_new F.called_str (by decide) (F.typeCall_str_1 _) (F.newCall_str_1 _) (fun obj => F.args_object_init_2 obj _) F.entry_str_new
    (meets_str_new (S := fun A' R s' => A'.units + 1 < cLine ∧ s' = s ∧ R (.ok (.ret (.str m tk))) s')
      fun p w A' R s' hq => by
        obtain ⟨h1, rfl, h2⟩ := hq
        exact strOf_own (A := A'.in1) h1 X ho hc hd h0 ht hs hl h2)
    ⟨(show A.units + 1 + 1 < cLine from hu), rfl, typeIs_str _ _ _, hq⟩
end
end Mine
open PySem PySem.W PyProof.Rows
set_option Elab.async false
set_option maxRecDepth 100000
set_option linter.unusedVariables false
set_option linter.unusedSimpArgs false
namespace Mine
variable {B : Bs} {C : Cx B} {ρ : Rho B} {μ : Mu B}
/-- all that stands fast through a raise -/
noncomputable def Fast (B : Bs) (mid base : Heap) : Prop := ∀ b o, mid.get? b = some o → (isFrm o = false ∨ ¬ B.mt b) → base.get? b = some o
theorem Fast.after {h₀ mid base h' : Heap} (p : Pres B none' h₀ mid) (x : Fast B mid base) (hs : base.StaysIn h') (hu : mid.UpToSlots h') (hz : h₀.objs.size ≤ h'.objs.size) : Pres B none' h₀ h' where
  obj := fun b o e f t => hs b o (x b o (p.obj b o e f t) (t.imp (fun t => by unfold isVar at t; rw [Bool.or_eq_false_iff] at t; exact t.2) id))
  frm := fun b o e f t => by
    obtain ⟨sl, e'⟩ := p.frm b o e f t
    obtain ⟨sl', e''⟩ := hu b _ e' fun vs q => by unfold isFrm at t; rw [show o.data = _ from q] at t; cases t
    exact ⟨sl', e''⟩
  tab := fun k b g => GoodTab.keep (B := B) (h := mid) (fun b o e t => hs b o (x b o e (.inl (by
    unfold isFrm
    rcases t with ⟨_, vs, q⟩ | t
    · rw [q]
    · unfold isTab at t
      split at t
      · rename_i h; rw [h]
      · cases t)))) k b (p.tab k b g)
  size := hz
/-- an exception that has left a call -/
structure Flown (B : Bs) (A : Around) (s s' : Shared) (e Cl : Addr) (w : Value) : Prop where
  rest : Rest s s'
  fly : ∃ l base t, A.frames = some l ∧ (∀ h'', base.StaysIn h'' → s'.heap.UpToSlots h'' → s.heap.objs.size ≤ h''.objs.size → Pres B none' s.heap h'') ∧ Heap.FlyingW base l e (.ref Cl) (.ref t) s'.heap ∧ s'.heap.TupAt t [w] ∧ base.get? t = none ∧
    (∀ o, s.heap.get? t = some o → ∃ vs, o.data = .fields vs) ∧ (∀ o, s.heap.get? e = some o → ∃ vs, o.data = .fields vs)
  size : s.heap.objs.size ≤ s'.heap.objs.size
structure FnX (B : Bs) (n : Nat) (v : Value) (R : Str) (Cl : Addr) : Prop where
  kept : Kept B v
  call : ∀ F A s w, Room n A → A.handled = none → Stk B A s.heap → Base B s.heap → (∀ b, F b → b < s.heap.objs.size) → (pstr (B := B) R).p F s.heap w →
    wpAny (md B) A (PySem.call v [w] []) (fun _ _ => False) (fun ev s' => ∃ e tk, ev = .ref e ∧ Flown B A s s' e Cl (.str R tk)) s
theorem funFrames_of {A : Around} {h : Heap} {l : List Env} (hs : ∀ env ∈ l, env.scope.kind = .function ∧ ∃ L, env.frame = some L ∧ B.N0 ≤ L ∧ ∃ o es n, h.get? L = some o ∧ o.data = .dict es n) {as : List Addr} (has : ∀ env ∈ l, ∀ a, env.frame = some a → a ∈ as) : h.FunFrames (hideAll h as) l := by
  induction l with
  | nil => trivial
  | cons env r ih =>
    obtain ⟨hk, L, hf, hn, o, es, n, ho, hd⟩ := hs env (.head _)
    exact ⟨by rw [hk]; decide, ⟨L, o, hf, hideAll_none _ (has env (.head _) L hf), ho, fun vs q => by rw [hd] at q; cases q⟩, ih (fun e he => hs e (.tail _ he)) fun e he => has e (.tail _ he)⟩
/-- leaving the frame where the exception was made -/
theorem leave_made {F : Addr → Prop} {h : Heap} {s' : Shared} {l : List Env} {e Cl : Addr} {ws : List Value} {E : Value → Shared → Prop} {Q : Unit → Shared → Prop} (f : Frm C F h ρ μ) (hA : C.A.frames = some (C.env :: l)) (hf : C.env.frame = some C.env.locals)
    (hx : Heap.MadeExcOf h s'.heap e (.ref Cl) ws)
    (hQ : ∀ h' base t, Heap.FlyingW base l e (.ref Cl) (.ref t) h' → h'.TupAt t ws → base.get? t = none → Fast B h base → h.UpToSlots h' → h.get? t = none → h.get? e = none → Q () { s' with heap := h' }) : wpAny (md B) C.A (leaving C.env (.ref e)) Q E s' := by
  obtain ⟨l', e', hs⟩ := f.stack
  rw [hA] at e'; cases e'
  have has : ∀ env ∈ (C.env :: l), ∀ a, env.frame = some a → a ∈ (C.env :: l).filterMap (·.frame) := fun env he b hb => List.mem_filterMap.mpr ⟨env, he, hb⟩
  refine wpAny_leaves_madeW hA hf (base := hideAll h ((C.env :: l).filterMap (·.frame))) (fun b o q => of_hideAll _ q) (funFrames_of (A := C.A) hs has) hx fun h' t x1 x2 x3 x4 => hQ h' _ t x1 x2 x3 (fun b o eb t => hideAll_get _ eb fun hm => ?_) ((Heap.UpToSlots.of_keeps hx.keeps).trans x4) ?_ hx.new
  · obtain ⟨env, he, hfr⟩ := List.mem_filterMap.mp hm
    obtain ⟨_, L, hf', hn, o', es, n, ho, hd⟩ := hs env he
    rw [hfr] at hf'; cases hf'
    rw [eb] at ho; cases ho
    rcases t with t | t
    · unfold isFrm at t; rw [hd] at t; cases t
    · exact t (.inr hn)
  · cases ht : h.get? t with
    | none => rfl
    | some ot =>
      exfalso
      obtain ⟨o', n, g1, g2, g3⟩ := x2
      cases hfr : isFrm ot with
      | true =>
        obtain ⟨sl, g4⟩ := ((Heap.UpToSlots.of_keeps hx.keeps).trans x4) t ot ht fun vs q => by unfold isFrm at hfr; rw [q] at hfr; cases hfr
        rw [g1] at g4; cases g4
        unfold isFrm at hfr; rw [show ot.data = _ from g3] at hfr; cases hfr
      | false =>
        have := hideAll_get ((C.env :: l).filterMap (·.frame)) ht fun hm => ?_
        · rw [x3] at this; cases this
        · obtain ⟨env, he, hfr'⟩ := List.mem_filterMap.mp hm
          obtain ⟨_, L, hf', hn, o'', es, n', ho, hd⟩ := hs env he
          rw [hfr'] at hf'; cases hf'
          rw [ht] at ho; cases ho
          unfold isFrm at hfr; rw [hd] at hfr; cases hfr
/-- what stands when a def has raised -/
noncomputable def FnXP (B : Bs) (A : Around) (s : Shared) (Cl : Addr) (R : Str) : Value → Shared → Prop := fun ev s' => ∃ e tk, ev = .ref e ∧ Rest s s' ∧ ∃ l base t, A.frames = some l ∧ (∀ h'', base.StaysIn h'' → s'.heap.UpToSlots h'' → s.heap.objs.size ≤ h''.objs.size → Pres B none' s.heap h'') ∧ Heap.FlyingW base l e (.ref Cl) (.ref t) s'.heap ∧ s'.heap.TupAt t [.str R tk] ∧ base.get? t = none ∧ (∀ o, s.heap.get? t = some o → ∃ vs, o.data = .fields vs) ∧ (∀ o, s.heap.get? e = some o → ∃ vs, o.data = .fields vs)
/-- a def that raises at once: if t: raise Cl(x) -/
theorem FnX.intro {a Cl : Addr} {fd : FuncData} {rest : List Stmt} {x y : Str} {R : Str} {n : Nat} {t : Expr} {np yp cpos rp ip : Pos} {Bn newId initId : String} {bm : List Value}
    (hget : ∀ h, Base B h → ∃ o, h.get? a = some o ∧ o.data = .func fd ∧ h.CodeRec fd.code fd.qualname)
    (ht : ∀ A h₀, Room (n + 1) A → A.handled = none → Base B h₀ → EvT (mkC B A h₀ fd a) (updL (fun _ => none) [x] [pstr R]) (fun _ => none) t true)
    (O : OwnCls y Cl bm newId B.mg B.hb) (FB : ExcBaseFacts Bn newId initId bm)
    (hbind : ∀ v, bindArgs fd ⟨[v], []⟩ = pure [(x, v)])
    (hbody : fd.body = .stmts (.If t [.Raise (some (.Call (.Name y np) [.Name x yp] [] cpos)) none rp] [] ip :: rest) := by rfl) (hclo : fd.closure = [] := by rfl) (hk : fd.scope.kind = .function := by rfl) (hg : fd.globals = mainGlobals := by rfl) (hbl : fd.builtins = builtinsNs := by rfl)
    (hco : fd.scope.isCoroutine = false := by rfl) (hgen : fd.scope.isGenerator = false := by rfl)
    (hx : fd.scope.names.lookup x = some .local := by rfl) (hy : fd.scope.names.lookup y = some .globalImplicit := by rfl)
    (hdx : (x == ("__debug__" : Str)) = false := by decide) (hcx : (x == ("__classdict__" : Str)) = false := by decide) (hdy : (y == ("__debug__" : Str)) = false := by decide) : FnX B (n + 1) (.ref a) R Cl where
  kept := fun h hb => let ⟨o, h1, h2, _⟩ := hget h hb; ⟨o, fd, h1, h2⟩
  call := fun F A s w hr hh hst hb hlt hvs => by
    suffices main : wpAny (md B) A (PySem.call (.ref a) [w] []) (fun _ _ => False) (FnXP B A s Cl R) s from
      wpAny_mono (wpAny_size main) (fun _ _ x => x.1) fun ev s' ⟨⟨e, tk, h1, h2, h3⟩, hz⟩ => ⟨e, tk, h1, h2, h3, hz⟩
    obtain ⟨o, ho, hd, hcd⟩ := hget _ hb
    obtain ⟨l, hA, _⟩ := id hst
    have hA' : (mkC B A s.heap fd a).A.frames = some ((mkC B A s.heap fd a).env :: l) := by show A.frames.map _ = _; rw [hA]; rfl
    refine wpAny_call (codeAny_call_function (by have := hr.depth; show A.depth < 1000; omega) ho hd hco hgen hbody hcd ?_)
    rw [hbind w]
    refine wpAny_pure (wpAny_mono (enter (A := A) (ρ₀ := fun _ => none) (xs := [x]) (vs := [w]) (Ps := [pstr R]) hb hst hlt hk hg hbl rfl ⟨hvs, trivial⟩ (by intro z hz; simp at hz; subst hz; exact .inl hx) (by rw [hclo]; intro _ h; cases h) (by rw [hclo]; exact .nil) (fun _ _ q => nomatch q)) (fun env s₂ h₂ => ?_) fun _ _ q => q.elim)
    obtain ⟨rfl, r₂, F', hF, hF', f₂⟩ := h₂
    refine ⟨f₂.h.nolimit, codeAny_func ?_⟩
    refine wpAny_execs_cons (wpAny_If (wpAny_mono (ht A s.heap hr hh hb F' s₂ f₂) (fun b s₃ ⟨p₃, hb₃⟩ => ?_) fun _ _ q => q.elim))
    subst hb₃
    simp only [if_true]
    have f₃ := f₂.step p₃.p
    obtain ⟨tl, N, nm, q, bs, hdct, sn, sub, ab, col, dd, k0, k1, k2, k3, k5, mN, hC, hN, hni, T⟩ := O.obj
    have hst₂ := f₂.stk
    refine wpAny_execs_cons (wpAny_Raise_call_subT (C := Cl) (nm := nm) (q := q) (N := N) (bs := bs) (bm := tl) (hdct := hdct) (sn := sn) (sub := sub) (ab := ab) (col := col) (dd := dd) (k0 := k0) (k1 := k1) (k2 := k2) (k3 := k3) (k5 := k5)
      FB (mN := mN) (T.hasType FB.hasBase) hh (by rfl) hni (wpAny_mono ((Ev.glob (C := mkC B A s.heap fd a) (ρ := updL (fun _ => none) [x] [pstr R]) (μ := fun _ => none) (show (mkC B A s.heap fd a).env.kindOf y = _ from hy) O.bound hdy) F' s₃ f₃) (fun fv s₄ ⟨p₄, e₄⟩ => ⟨e₄, ?_⟩) fun _ _ q => q.elim))
    have f₄ := f₃.step p₄.p
    refine PySem.Calls.evalArgs_plain ?_
    refine wpAny_mono ((EvL.cons (C := mkC B A s.heap fd a) (ρ := updL (fun _ => none) [x] [pstr R]) (μ := fun _ => none) (Ev.name (x := x) (P := pstr R) (by simp [updL, upd]) hdx hcx) EvL.nil) F' s₄ cpos f₄) (fun vs s₅ ⟨p₅, h₅⟩ => ?_) fun _ _ q => q.elim
    have f₅ := f₄.step p₅.p
    obtain ⟨w', rfl, hw'⟩ := one_arg h₅
    obtain ⟨tk, rfl⟩ := str_of hw'
    have k₅ := f₅.h.keep
    refine ⟨rfl, by simp [sizeLine], k₅ _ _ hC, hN.keeps k₅, T.keeps k₅, fun h' ea hx' => ?_⟩
    refine wpMono (Q := fun _ s'' => ∃ h'' base t, s'' = { s₅ with heap := h'' } ∧ Heap.FlyingW base l ea (.ref Cl) (.ref t) h'' ∧ h''.TupAt t [.str R tk] ∧ base.get? t = none ∧ Fast B s₅.heap base ∧ s₅.heap.UpToSlots h'' ∧ s₅.heap.get? t = none ∧ s₅.heap.get? ea = none)
      (leave_made (C := mkC B A s.heap fd a) (s' := { s₅ with heap := h' }) f₅ hA' rfl hx' fun h'' base t x1 x2 x3 x4 x5 x6 x7 => ⟨h'', base, t, rfl, x1, x2, x3, x4, x5, x6, x7⟩) fun _ s'' ⟨h'', base, t, e1, x1, x2, x3, x4, x5, x6, x7⟩ => ?_
    subst e1
    have pp := f₅.pres
    have new : ∀ b, s₅.heap.get? b = none → ∀ o, s.heap.get? b = some o → ∃ vs, o.data = .fields vs := fun b hb o ho => by
      by_cases h : ∃ vs, o.data = .fields vs
      · exact h
      · obtain ⟨sl, e'⟩ := pp.data ho (fun q => q) fun vs q => h ⟨vs, q⟩
        have e'' : s₅.heap.get? b = _ := e'
        rw [hb] at e''; cases e''
    show FnXP B A s Cl R _ _
    unfold FnXP
    exact ⟨ea, tk, rfl, ⟨(p₅.r.1.trans (p₄.r.1.trans (p₃.r.1.trans r₂.1))), (p₅.r.2.trans (p₄.r.2.trans (p₃.r.2.trans r₂.2))), (p₅.r.3.trans (p₄.r.3.trans (p₃.r.3.trans r₂.3)))⟩,
      l, base, t, hA, fun h3 y1 y2 y3 => x4.after pp y1 (x5.trans y2) y3, x1, x2, x3, new t x6, new ea x7⟩
end Mine
open PySem PySem.W PyProof.Rows
set_option Elab.async false
set_option maxRecDepth 100000
set_option linter.unusedVariables false
set_option linter.unusedSimpArgs false
namespace Mine
variable {B : Bs} {C : Cx B} {ρ : Rho B} {μ : Mu B}
theorem Frm.less {F F₀ : Addr → Prop} {h : Heap} (f : Frm C F h ρ μ) (hs : ∀ b, F₀ b → F b) (hk : ∀ b, F b → (∃ o, h.get? b = some o ∧ ∀ vs, o.data ≠ .fields vs) → F₀ b) : Frm C F₀ h ρ μ where
  base := f.base
  pres := f.pres
  kind := f.kind
  glob := f.glob
  blt := f.blt
  fl := by
    obtain ⟨m, ⟨o, es, ep, e, hd, _⟩, _⟩ := f.loc
    exact hk _ f.fl ⟨o, e, fun vs q => by rw [hd] at q; cases q⟩
  lt := fun b q => f.lt b (hs b q)
  fresh := f.fresh
  stk := f.stk
  loc := let ⟨m, a, hm⟩ := f.loc; ⟨m, a, fun x P q k => let ⟨v, a, b⟩ := hm x P q k; ⟨v, a, P.weak b fun b q => .inl (hs b q)⟩⟩
  cel := fun x P q k => let ⟨c, v, a, e, b⟩ := f.cel x P q k; ⟨c, v, a, e, P.weak b fun b q => .inl (hs b q)⟩
  kinds := f.kinds
  own := fun x q k => let ⟨c, v, a, b, d, e⟩ := f.own x q k; ⟨c, v, a, hk _ b (let ⟨o, e, hd⟩ := e; ⟨o, e, fun vs q => by rw [hd] at q; cases q⟩), d, e⟩
  inj := f.inj
  lst := fun a Ps q => let ⟨x, y, vs, z, w⟩ := f.lst a Ps q; ⟨hk _ x (let ⟨n, e⟩ := z; ⟨_, e, fun vs q => by cases q⟩), y, vs, z, w.weak fun b q => .inl (hs b q)⟩
/-- the frame under an exception that is handled -/
noncomputable abbrev Cx.held (C : Cx B) (e : Addr) : Cx B := { C with A := C.A.mark (some (.ref e)) }
theorem Frm.held {F : Addr → Prop} {h : Heap} (f : Frm C F h ρ μ) (e : Addr) : Frm (C.held e) F h ρ μ where
  base := f.base
  pres := f.pres
  kind := f.kind
  glob := f.glob
  blt := f.blt
  fl := f.fl
  lt := f.lt
  fresh := f.fresh
  stk := f.stk
  loc := f.loc
  cel := f.cel
  kinds := f.kinds
  own := f.own
  inj := f.inj
  lst := f.lst
theorem Ex1.tryX {g y cls n : Str} {gp yp cp ep clp rp hp pos : Pos} {v : Value} {R : Str} {Cl : Addr} {k : Nat} {e : Expr} {P : Pd B} {bmB : List Value} {newId : String} {l : List Env} (hl : C.A.frames = some (C.env :: l)) (hf : C.env.frame = some C.env.locals)
    (hg : Ev C ρ μ (.Name g gp) (pv v)) (hy : Ev C ρ μ (.Name y yp) (pstr R)) (hx : FnX B k v R Cl) (hr : Room k C.A) (hh : C.A.handled = none)
    (O : OwnClsQ cls Cl bmB newId B.mg B.hb) (hbase : bmB.contains (.type "BaseException") = true)
    (he : ∀ ea, Ev (C.held ea) (upd ρ n (pexc Cl R)) μ e P) (hP : Lasts P)
    (hn : C.env.kindOf n = some .local) (hcl : C.env.kindOf cls = some .globalImplicit) (hdc : (cls == ("__debug__" : Str)) = false := by decide) (hrho : ρ n = none := by rfl)
    (hi : interactive C.env = false := by rfl) (hs : swapsWith (.Call (.Name g gp) [.Name y yp] [] cp) none ep.line C.env = pure false := by rfl) :
    Ex1 C ρ μ (.Try [.Expr (.Call (.Name g gp) [.Name y yp] [] cp) ep] [.ExceptHandler (some (.Name cls clp)) (some n) [.Return (some e) rp] hp] [] [] pos) (.ret P) := fun F s f => by
  refine wpAny_Try_except (wpAny_execs_cons (wpAny_Expr_any (wpAny_Call_NameR (wpAny_mono (hg F s f) (fun gv s₁ ⟨p₁, h₁⟩ => ?_) fun _ _ q => q.elim)) hi hs))
  obtain rfl : gv = v := h₁
  refine callWith_any hx.kept (by rfl) (wpAny_mono ((EvL.cons hy EvL.nil) F s₁ cp (f.step p₁.p)) (fun vs s₂ ⟨p₂, h₂⟩ => ?_) fun _ _ q => q.elim)
  have f₂ := (f.step p₁.p).step p₂.p
  refine ⟨f₂.h, ?_⟩
  obtain ⟨w, rfl, hw⟩ := one_arg h₂
  refine wpAny_mono (hx.call F C.A s₂ w hr hh f₂.stack f₂.h f₂.lt hw) (fun _ _ q => q.elim) fun ev s₃ ⟨ea, tk, ev', fl⟩ => ?_
  subst ev'
  obtain ⟨r₃, ⟨l', base, t, hl', adv, fly, tup, bt, newT, newE⟩, z₃⟩ := fl
  rw [hl] at hl'; cases hl'
  refine wpSize (Q := fun _ s₄ => ∃ h₄, s₄ = { s₃ with heap := h₄ } ∧ Heap.HeldW base (C.env :: l) ea (.ref Cl) (.ref t) C.env.locals h₄ ∧ s₃.heap.UpToSlots h₄) (wpAny_looks_onW hl hf fly fun h₄ x1 x2 => ⟨h₄, rfl, x1, x2⟩) fun _ s₄ ⟨h₄, e₄, held₄, u₄⟩ z₄ => ?_
  subst e₄
  refine wpSize (Q := fun _ s₅ => ∃ h₅, s₅ = { s₃ with heap := h₅ } ∧ Heap.FlyingW base (C.env :: l) ea (.ref Cl) (.ref t) h₅ ∧ h₄.UpToSlots h₅) (wpAny_landsW held₄ fun h₅ x1 x2 => ⟨h₅, rfl, x1, x2⟩) fun _ s₅ ⟨h₅, e₅, fly₅, u₅⟩ z₅ => ?_
  subst e₅
  have u35 := u₄.trans u₅
  have z25 : s₂.heap.objs.size ≤ h₅.objs.size := Nat.le_trans z₃ (Nat.le_trans z₄ z₅)
  have p5 : Pres B none' s₂.heap h₅ := adv h₅ fly₅.1 u35 z25
  have b5 := f₂.h.pres p5
  refine handleBy_own_as (mg := B.mg) (newId := newId) (C := Cl) (x := cls) hbase ?_
  refine wpAny_Name ?_ hdc
  rw [loadName_read f.kind hcl]
  refine PySem.Calls.loadGlobal_global (by rw [f.glob]; exact B.g.keeps b5.keep) O.bound ⟨rfl, O.keeps b5.keep, fly₅.there, ?_⟩
  refine wpSize (Q := fun _ s₆ => ∃ h₆, s₆ = { s₃ with heap := h₆ } ∧ Heap.FlyingW base (C.env :: l) ea (.ref Cl) (.ref t) h₆ ∧ h₅.UpToSlots h₆) (lands_againW fly₅ fun h₆ x1 x2 => ⟨h₆, rfl, x1, x2⟩) fun _ s₆ ⟨h₆, e₆, fly₆, u₆⟩ z₆ => ?_
  subst e₆
  have p6 : Pres B none' s₂.heap h₆ := adv h₆ fly₆.1 (u35.trans u₆) (Nat.le_trans z25 z₆)
  have f₃ : Frm C (fun b => F b ∧ b ≠ ea ∧ b ≠ t) s₂.heap ρ μ := f₂.less (fun b q => q.1) fun b q ⟨o, eo, hd⟩ => ⟨q, fun z => by subst z; obtain ⟨vs, e⟩ := newE o eo; exact hd vs e, fun z => by subst z; obtain ⟨vs, e⟩ := newT o eo; exact hd vs e⟩
  have f₆ := (f₃.step p6).held ea
  obtain ⟨oe, ws, T, oT, ts, hoe, ⟨hoc, ho0⟩, hod, _⟩ := fly₆.2.2.2
  have tup₆ := tup.of_slots (u35.trans u₆)
  have pe : (pexc (B := B) Cl R).p (fun b => F b ∧ b ≠ ea ∧ b ≠ t) h₆ (.ref ea) := ⟨ea, oe, ws, t, tk, rfl, fun q => q.2.1 rfl, hoe, hoc, hod, ho0, fun q => q.2.2 rfl, tup₆⟩
  refine wpAny_mono (st_any (C := C.held ea) (s := { s₃ with heap := h₆ }) f₆ pe (.inl hn)) (fun _ s₇ ⟨r₇, f₇, p₇⟩ => ?_) fun _ _ q => q.elim
  refine wpAny_execs_cons (wpAny_Return_some (wpAny_mono (he ea _ s₇ f₇) (fun rv s₈ ⟨p₈, h₈⟩ => ?_) fun _ _ q => q.elim))
  have f₈ := f₇.step p₈.p
  refine wpAny_bind (wpAny_bindName (wpAny_mono (st_any (C := C.held ea) (P := pnone) f₈ of_none (.inl hn)) (fun _ s₉ ⟨r₉, f₉, p₉⟩ => ?_) fun _ _ q => q.elim))
  obtain ⟨m, hns, hm⟩ := f₉.loc
  obtain ⟨u, hu, _⟩ := hm n pnone (if_pos rfl) hn
  unfold unbindBehindTheSuite
  refine wpAny_onRaise (wpAny_unbindName_local hn hns hu (by rw [f.kind]; rfl) fun h' u' hns' hsb => ?_)
  have p₁₀ : Pres B (Mut C μ) s₉.heap h' := let ⟨_, _, _, eo, hd, _⟩ := id hns; Pres.sameBut hsb eo (plain_dict hd) (.inl rfl)
  have pM : Pres B (Mut C μ) s.heap h' := ((((((p₁.p.trans p₂.p).trans p6).any).trans p₇).trans p₈.p.any).trans p₉).trans p₁₀
  refine ⟨?_, pM, ?_⟩
  · have a1 := p₁.r; have a2 := p₂.r; have a8 := p₈.r
    exact ⟨r₉.1.trans (a8.1.trans (r₇.1.trans (r₃.1.trans (a2.1.trans a1.1)))), r₉.2.trans (a8.2.trans (r₇.2.trans (r₃.2.trans (a2.2.trans a1.2)))), r₉.3.trans (a8.3.trans (r₇.3.trans (r₃.3.trans (a2.3.trans a1.3))))⟩
  · have f10 : Pres B none' C.h₀ h' := f₉.pres.then (let ⟨_, _, _, eo, hd, _⟩ := id hns; Pres.sameBut (F := fun b => b = C.env.locals) hsb eo (plain_dict hd) rfl) fun b q => by rw [q]; exact f.fresh
    exact ⟨f10, hP _ _ _ h₈ _ _⟩
end Mine
open PySem PySem.W PyProof.Rows
set_option Elab.async false
set_option maxRecDepth 100000
set_option linter.unusedVariables false
set_option linter.unusedSimpArgs false
namespace Mine
variable {B : Bs} {C : Cx B} {ρ : Rho B} {μ : Mu B}
noncomputable def strKeysB (es : Array DictEntry) : Bool := es.toList.all fun e => match e.key with | .str _ _ => true | _ => false
theorem ns_of_K {K : Frag} {h : Heap} (X : K.In h) {N : Addr} {c : Value} {d : Option Addr} {es : Array DictEntry} {n : Nat} {sl : Array (Option Value)} (e : K.lookup N = some ⟨c, d, .dict es n, sl⟩) (hk : strKeysB es = true) : h.Ns N (fun x => nsFind es x) :=
  ⟨_, es, n, X _ _ e, rfl, by
    refine ⟨?_, fun _ => rfl⟩
    intro en hen
    have := List.all_eq_true.mp hk en (Array.mem_toList_iff.mpr hen)
    cases hq : en.key with
    | str n t => exact ⟨n, t, rfl⟩
    | _ => rw [hq] at this; cases this⟩
noncomputable def quietB (es : Array DictEntry) : Bool := quietNames.all fun n => (nsFind es n).isNone
theorem quiet_of {es : Array DictEntry} (h : quietB es = true) : ∀ n ∈ quietNames, nsFind es n = none := fun n hn => by
  have := List.all_eq_true.mp h n hn
  simpa using this
/-- str of an exception of ours -/
theorem fn_strE {K : Frag} (HK : K.In B.hb) {H : Option Value → Prop} {Cl : Addr} {R : Str} (hs : subIn K (.ref Cl) (.type "BaseException") = some true) (hl : findIn K (.ref Cl) "__str__" = some (some (.builtin "BaseException.__str__"))) : Fn B 0 (.type "str") [pexc Cl R] (pstr R) H where
  kept := trivial
  call := fun F A s vs hr hh hst hb hlt hv => by
    obtain ⟨v, rfl, h1⟩ := one_arg hv
    obtain ⟨e, o, ws, t, tk, rfl, _, g, hc, hd, h0, _, ht⟩ := h1
    exact str_of_own (prog := B.prog) (w := B.w) (by have := hr.units; have h9 : cLine = 9900 := rfl; omega) (fun a o e => hb.keep _ _ (HK a o e)) g hc hd h0 ht hs hl ⟨.refl, of_str⟩
end Mine
open PySem PySem.W PyProof.Rows
set_option Elab.async false
set_option maxRecDepth 100000
set_option linter.unusedVariables false
set_option linter.unusedSimpArgs false
namespace Mine
variable {B : Bs} {C : Cx B} {ρ : Rho B} {μ : Mu B}
theorem Ev.cast {e : Expr} {P Q : Pd B} (h : Ev C ρ μ e P) (hq : P = Q) : Ev C ρ μ e Q := hq ▸ h
theorem Ev.castI {e : Expr} {i j : Int} (h : Ev C ρ μ e (pint i)) (hq : i = j) : Ev C ρ μ e (pint j) := hq ▸ h
theorem Ev.castS {e : Expr} {i j : List Nat} (h : Ev C ρ μ e (ptx i)) (hq : i = j) : Ev C ρ μ e (ptx j) := hq ▸ h
theorem Ev.castD {e : Expr} {i j : D} (h : Ev C ρ μ e (pd i)) (hq : i = j) : Ev C ρ μ e (pd j) := hq ▸ h
theorem EvT.cast {e : Expr} {i j : Bool} (h : EvT C ρ μ e i) (hq : i = j) : EvT C ρ μ e j := hq ▸ h
theorem EvT.ic {l r : Expr} {op : CmpOp} {pos : Pos} {i j : Int} {b : Bool} (hl : Ev C ρ μ l (pint i)) (hr : Ev C ρ μ r (pint j)) (hb : cmpI op i j = b) (ho : isOrd op = true := by rfl)
    (hm : behindInMarks op r = false := by with_unfolding_all rfl) : EvT C ρ μ (.Compare l [op] [r] pos) b := hb ▸ EvT.cmp (Ev.icmp hl hr ho hm)
theorem Ev.ic {l r : Expr} {op : CmpOp} {pos : Pos} {i j : Int} {b : Bool} (hl : Ev C ρ μ l (pint i)) (hr : Ev C ρ μ r (pint j)) (hb : cmpI op i j = b) (ho : isOrd op = true := by rfl)
    (hm : behindInMarks op r = false := by with_unfolding_all rfl) : Ev C ρ μ (.Compare l [op] [r] pos) (pbool b) := hb ▸ Ev.icmp hl hr ho hm
theorem Ev.eqc {l r : Expr} {pos : Pos} {i j : List Nat} {b : Bool} (hl : Ev C ρ μ l (ptx i)) (hr : Ev C ρ μ r (ptx j)) (hb : (i == j) = b) (hm : behindInMarks .Eq r = false := by with_unfolding_all rfl) : Ev C ρ μ (.Compare l [.Eq] [r] pos) (pbool b) := hb ▸ Ev.eqS hl hr hm
theorem Ev.nec {l r : Expr} {pos : Pos} {i j : List Nat} {b : Bool} (hl : Ev C ρ μ l (ptx i)) (hr : Ev C ρ μ r (ptx j)) (hb : (i != j) = b) (hm : behindInMarks .NotEq r = false := by with_unfolding_all rfl) : Ev C ρ μ (.Compare l [.NotEq] [r] pos) (pbool b) := hb ▸ Ev.neS hl hr hm
theorem EvT.eqc {l r : Expr} {pos : Pos} {i j : List Nat} {b : Bool} (hl : Ev C ρ μ l (ptx i)) (hr : Ev C ρ μ r (ptx j)) (hb : (i == j) = b) (hm : behindInMarks .Eq r = false := by with_unfolding_all rfl) : EvT C ρ μ (.Compare l [.Eq] [r] pos) b := EvT.cmp (Ev.eqc hl hr hb hm)
theorem EvT.nec {l r : Expr} {pos : Pos} {i j : List Nat} {b : Bool} (hl : Ev C ρ μ l (ptx i)) (hr : Ev C ρ μ r (ptx j)) (hb : (i != j) = b) (hm : behindInMarks .NotEq r = false := by with_unfolding_all rfl) : EvT C ρ μ (.Compare l [.NotEq] [r] pos) b := EvT.cmp (Ev.nec hl hr hb hm)
/-- and of two tests -/
theorem EvT.and2 {x y : Expr} {pos : Pos} {a b : Bool} (hx : EvT C ρ μ x a) (hy : a = true → EvT C ρ μ y b) : EvT C ρ μ (.BoolOp .And [x, y] pos) (a && b) := by
  cases a with
  | false => exact EvT.boolop (EvA.and_no hx)
  | true => exact EvT.boolop (EvA.and_yes hx (by
      cases b with
      | false => exact EvA.and_no (hy rfl)
      | true => exact EvA.and_yes (hy rfl) EvA.and_nil))
theorem EvT.or2 {x y : Expr} {pos : Pos} {a b : Bool} (hx : EvT C ρ μ x a) (hy : a = false → EvT C ρ μ y b) : EvT C ρ μ (.BoolOp .Or [x, y] pos) (a || b) := by
  cases a with
  | true => exact EvT.boolop (EvA.or_yes hx)
  | false => exact EvT.boolop (EvA.or_no hx (by
      cases b with
      | true => exact EvA.or_yes (hy rfl)
      | false => exact EvA.or_no (hy rfl) EvA.or_nil))
theorem Room.held {n : Nat} {A : Around} {h : Option Value} (r : Room n A) : Room n (A.mark h) := ⟨r.depth, r.units, r.guards, r.frames⟩
noncomputable def anyH : Option Value → Prop := fun _ => True
/-- len of a text, of a list -/
theorem Ev.len {K : Frag} (HK : K.In B.hb) {np pos : Pos} {e : Expr} {l : List Nat} (he : Ev C ρ μ e (ptx l)) (hl : l.length ≤ 100000) (hr : Room 0 C.A) (hk : C.env.kindOf (Str.ofString "len") = some .globalImplicit) (hm : nsIn K mainGlobals (Str.ofString "len") = some Option.none)
    (hst : starEach [e] C.env = [(false, eval e C.env)] := by rfl) : Ev C ρ μ (.Call (.Name (Str.ofString "len") np) [e] [] pos) (pint l.length) :=
  Ev.call (H := anyH) (Ev.blt hk (blt_of HK hm) (by rw [B.hbl _ (by decide)]; kernel_rfl) (by decide)) (EvL.cons he EvL.nil hst) (fn_lenS l (by omega)) hr trivial (by rw [hst]; rfl)
theorem cmp_lt {a b : Nat} (h : a < b) : cmpI .Lt (a : Int) (b : Int) = true := by simp [cmpI]; omega
theorem cmp_nlt {a b : Nat} (h : ¬ a < b) : cmpI .Lt (a : Int) (b : Int) = false := by simp [cmpI]; omega
/-- ∀ of predicates -/
noncomputable def pall {ι : Type} (P : ι → Pd B) : Pd B := ⟨fun F h v => ∀ i, (P i).p F h v, fun x p i => (P i).mono (x i) p, fun x w i => (P i).weak (x i) w⟩
theorem slc_two {l r : List Nat} {f : Nat} (h : l.drop f = r) : slc l (some (f : Int)) (some ((f : Int) + 2)) = r.take 2 := by
  unfold slc
  simp only [Option.elim]
  rw [show ((f : Int) + 2).toNat = f + 2 from by omega, show (f : Int).toNat = f from by omega, ← h, List.drop_take]
  congr 1; omega
theorem slc_snd {l r : List Nat} {f : Nat} (h : l.drop f = r) : slc l (some ((f : Int) + 1)) (some ((f : Int) + 2)) = (r.drop 1).take 1 := by
  unfold slc
  simp only [Option.elim]
  rw [show ((f : Int) + 2).toNat = f + 2 from by omega, show ((f : Int) + 1).toNat = f + 1 from by omega, ← h, List.drop_take, List.drop_drop]
  congr 1; omega
end Mine
open PySem PySem.W PyProof.Rows
set_option Elab.async false
set_option maxRecDepth 100000
set_option linter.unusedVariables false
set_option linter.unusedSimpArgs false
namespace Mine
variable {B : Bs} {C : Cx B} {ρ : Rho B} {μ : Mu B}
/-- new lists of three None each, apart -/
noncomputable def Rg (F : Addr → Prop) (lo : Nat) (h : Heap) (vs : List Value) (k : Nat) : Prop := ∃ as : List Addr, vs = as.map Value.ref ∧ as.length = k ∧ as.Nodup ∧ ∀ b ∈ as, lo ≤ b ∧ ¬ F b ∧ IsSeq h "list" b [.none, .none, .none]
theorem Rg.mono {F : Addr → Prop} {lo k : Nat} {h h' : Heap} {vs : List Value} (x : Rg F lo h vs k) (p : Pres B F h h') : Rg F lo h' vs k :=
  let ⟨as, h1, h2, h3, h4⟩ := x; ⟨as, h1, h2, h3, fun b hb => let ⟨a1, a2, a3⟩ := h4 b hb; ⟨a1, a2, a3.pres a2 p⟩⟩
theorem Rg.weak {F F' : Addr → Prop} {lo k : Nat} {h : Heap} {vs : List Value} (x : Rg F lo h vs k) (hw : ∀ b, F' b → F b ∨ h.get? b = none) : Rg F' lo h vs k :=
  let ⟨as, h1, h2, h3, h4⟩ := x; ⟨as, h1, h2, h3, fun b hb => let ⟨a1, a2, a3⟩ := h4 b hb; ⟨a1, fun q => (hw b q).elim a2 fun z => (by obtain ⟨n, e⟩ := a3; rw [z] at e; cases e), a3⟩⟩
theorem Rg.snoc {F : Addr → Prop} {lo k : Nat} {h : Heap} {vs : List Value} {b : Addr} (x : Rg F lo h vs k) (hb : lo ≤ b ∧ ¬ F b ∧ IsSeq h "list" b [.none, .none, .none]) (hn : ∀ a, Value.ref a ∈ vs → a ≠ b) : Rg F lo h (vs ++ [.ref b]) (k + 1) := by
  obtain ⟨as, h1, h2, h3, h4⟩ := x
  refine ⟨as ++ [b], by rw [h1]; simp, by simp [h2], ?_, fun c hc => ?_⟩
  · rw [List.nodup_append]
    refine ⟨h3, by simp, fun c hc d hd => ?_⟩
    simp only [List.mem_cons, List.not_mem_nil, or_false] at hd
    subst hd
    exact hn c (by rw [h1]; exact List.mem_map_of_mem hc)
  · rcases List.mem_append.mp hc with q | q
    · exact h4 c q
    · simp only [List.mem_cons, List.not_mem_nil, or_false] at q
      subst q; exact hb
inductive CompF (C : Cx B) (ρ : Rho B) (t : Expr) (elt : Expr) : List (Pd B) → Prop
  | nil : CompF C ρ t elt []
  | cons {P : Pd B} {Ps : List (Pd B)} {ρ₁ : Rho B} (ha : Asg C ρ (fun _ => none) t P ρ₁) (hs : ∀ x P, ρ x = some P → ρ₁ x = some P) (he : EvN C ρ₁ (fun _ => none) elt [pnone, pnone, pnone]) (r : CompF C ρ t elt Ps) : CompF C ρ t elt (P :: Ps)
theorem three_none {F : Addr → Prop} {h : Heap} {vs : List Value} (x : all2 (B := B) F h [pnone, pnone, pnone] vs) : vs = [.none, .none, .none] := by
  obtain ⟨a, b, c, rfl, x1, x2, x3⟩ := three_args x
  rw [none_of x1, none_of x2, none_of x3]
theorem comp_loopF {elt t iter : Expr} {scope : Scope} {pos : Pos} {I Da : Addr} (hh : C.A.handled = Option.none) {lo : Nat} {Ps : List (Pd B)} (x : CompF C ρ t elt Ps) :
    ∀ (F : Addr → Prop) (s : Shared) (vs : List Value) (dn : Nat), Frm C F s.heap ρ (fun _ => Option.none) → F I → ¬ Mut C (fun _ => Option.none) I → C.h₀.get? I = Option.none → Its F s.heap I Ps →
      F Da → ¬ Mut C (fun _ => Option.none) Da → C.h₀.get? Da = Option.none → IsSeq s.heap "list" Da vs → Rg F lo s.heap vs dn → dn + Ps.length ≤ sizeLine → lo ≤ s.heap.objs.size →
      codeAny (md B) C.A (.compLoop (.ListComp elt [⟨t, iter, [], 0⟩] scope pos) 0 (.ref I) (.ref Da) C.env)
        (fun r s' => match r with | .ok _ => Rest s s' ∧ Frm C F s'.heap ρ (fun _ => Option.none) ∧ ∃ vs', IsSeq s'.heap "list" Da vs' ∧ Rg F lo s'.heap vs' (dn + Ps.length) | .error _ => False) s := by
  induction x with
  | nil =>
    intro F s vs dn f hF hm h0 x hD hmD h0D hq hr hz hlo
    refine comp_turn (wpSize (x.fin hh) fun r s₁ ⟨e, r₁, hx⟩ hz' => ?_)
    subst e
    obtain ⟨o, e, hp, _⟩ := x.plain
    have pF : Pres B F s.heap s₁.heap := .extBut hx (fun o' e' => by rw [e] at e'; cases e'; exact ⟨hp, hF⟩) hz'
    refine ⟨r₁, f.iterX x hx hz' hF hm h0, vs, ?_, by simpa using hr.mono pF⟩
    obtain ⟨n, e'⟩ := hq
    exact ⟨n, hx _ _ (x.apart.2.1 _ _ _ ⟨n, e'⟩).symm e'⟩
  | @cons P Ps ρ₁ ha hs he r ih =>
    intro F s vs dn f hF hm h0 x hD hmD h0D hq hr hz hlo
    refine comp_turn (wpMono (x.next hF) fun r s₁ ⟨v, e, r₁, hs₁, hv, x₁⟩ => ?_)
    subst e
    obtain ⟨o, e, hp, _⟩ := x.plain
    have hqI := x.apart.2.1 _ _ _ hq
    have f₁ := f.iterX x hs₁.extBut (Nat.le_of_eq hs₁.1.symm) hF hm h0
    have p₁ : Pres B F s.heap s₁.heap := .sameBut hs₁ e hp hF
    refine letOwned x₁ (wpMono (ha F s₁ v f₁ hv) fun _ s₂ ⟨r₂, f₂, p₂⟩ => wpMono (Tests.nil.run (C := C) f₂) fun ok s₃ ⟨p₃, e₃⟩ => ?_)
    subst e₃
    simp only [if_true]
    have f₃ := f₂.step p₃.p
    have q₂ : Pres B F s₁.heap s₂.heap := p₂.weak fun b q => f.mutF q
    have hr₃ : Rg F lo s₃.heap vs dn := ((hr.mono p₁).mono q₂).mono (B := B) p₃.p.any
    have hq₃ : IsSeq s₃.heap "list" Da vs := ((hq.sameBut hs₁ hqI.symm).pres hmD p₂).pres (fun q => q) p₃.p
    refine wpMono (he F s₃ f₃) fun y s₄ ⟨p₄, b, ws, ey, hb, hbq, hbw⟩ => ?_
    subst ey
    obtain rfl := three_none hbw
    have q₃ : Pres B F s₂.heap s₄.heap := (p₃.trans p₄).p.any
    have hq₄ : IsSeq s₄.heap "list" Da vs := hq₃.pres (fun q => q) p₄.p
    have hr₄ : Rg F lo s₄.heap vs dn := hr₃.mono (B := B) p₄.p.any
    have x₄ : Its F s₄.heap I Ps := x₁.keep (fun o e hp => (p₃.trans p₄).p.obj _ _ (p₂.obj I o e (.inl hm) (.inl hp)) (.inl fun q => q) (.inl hp)) (q₂.trans q₃) (fun _ q => q) fun _ q => .inl q
    have hlen : vs.length = dn := by obtain ⟨as, h1, h2, _⟩ := hr; rw [h1, List.length_map, h2]
    have hbD : b ≠ Da := fun q => by obtain ⟨n, e⟩ := hq₃; subst q; exact absurd (Heap.lt_size e) (Nat.not_lt.mpr hb)
    have hbF : ¬ F b := fun q => absurd (f₃.lt b q) (Nat.not_lt.mpr hb)
    have hlo₃ : lo ≤ s₃.heap.objs.size := Nat.le_trans hlo (Nat.le_trans p₁.size (Nat.le_trans p₂.size p₃.p.size))
    refine wpAny_list_append_plain (items := vs.toArray) hq₄ (fun h' hq' hs' => ?_) (by simp only [List.length_cons] at hz; simp; omega)
    have hq₅ : IsSeq h' "list" Da (vs ++ [.ref b]) := let ⟨n, e⟩ := hq'; ⟨n, by rw [e]; simp⟩
    obtain ⟨n₄, e₄⟩ := id hq₄
    have p₅ : Pres B F s₄.heap h' := .sameBut hs' e₄ (plain_seq rfl) hD
    have f₅ : Frm C F h' ρ₁ (fun _ => Option.none) := (f₃.step p₄.p).touch hs'.extBut (Nat.le_of_eq hs'.1.symm) hD hmD h0D (fun o' e' => by rw [e₄] at e'; cases e'; exact plain_seq rfl) (fun c v hc => cell_ne_seq hc hq₄)
    have x₅ : Its F h' I Ps := x₄.keep (fun o e hp => (hs'.2 I (x₄.apart.2.1 _ _ _ hq₄)).trans e) p₅ (fun _ q => q) fun _ q => .inl q
    have hr₅ : Rg F lo h' (vs ++ [.ref b]) (dn + 1) := (hr₄.mono p₅).snoc ⟨Nat.le_trans hlo₃ hb, hbF, hbq.sameBut hs' hbD⟩ fun a ha q => by
      subst q
      obtain ⟨as, h1, h2, h3, h4⟩ := hr₃
      rw [h1] at ha
      obtain ⟨a', ha', q⟩ := List.mem_map.mp ha
      cases q
      obtain ⟨n, e⟩ := (h4 _ ha').2.2
      exact absurd (Heap.lt_size e) (Nat.not_lt.mpr hb)
    refine codeAny_mono (ih F { s₄ with heap := h' } (vs ++ [.ref b]) (dn + 1) (f₅.forget hs) hF hm h0 x₅ hD hmD h0D hq₅ hr₅ (by simp only [List.length_cons] at hz; omega) (Nat.le_trans hlo (Nat.le_trans p₁.size (Nat.le_trans q₂.size (Nat.le_trans q₃.size p₅.size))))) fun r s' h => ?_
    cases r with
    | ok _ => exact ⟨(((r₁.trans r₂).trans p₃.r).trans p₄.r).trans ⟨h.1.1, h.1.2, h.1.3⟩, h.2.1, by simpa [Nat.add_assoc, Nat.add_comm 1] using h.2.2⟩
    | error _ => exact h
/-- what such a comprehension leaves -/
structure CompEndF (B : Bs) (F : Addr → Prop) (s s' : Shared) (Da L : Addr) (k : Nat) : Prop where
  stp : Stp B s s'
  dD : s.heap.objs.size ≤ Da
  dL : s.heap.objs.size ≤ L
  ne : L ≠ Da
  ns : ∃ m, s'.heap.Ns L m
  val : ∃ as : List Addr, IsSeq s'.heap "list" Da (as.map Value.ref) ∧ as.length = k ∧ as.Nodup ∧ Da ∉ as ∧ L ∉ as ∧ ∀ b ∈ as, s.heap.objs.size ≤ b ∧ IsSeq s'.heap "list" b [.none, .none, .none]
theorem comp_runF {elt t iter : Expr} {scope : Scope} {pos epos : Pos} {use : Option (Value → Sem Unit)} {Q : Value → Shared → Prop} {F : Addr → Prop} {s : Shared} {Ps : List (Pd B)}
    (f : Frm C F s.heap ρ μ) (hh : C.A.handled = Option.none) (hi : EvI C ρ μ iter Ps)
    (hx : ∀ L h₀, CompF (compC C scope L h₀) (cRho ρ scope) t elt Ps)
    (hQ : ∀ s' Da L, CompEndF B F s s' Da L Ps.length → compPost (md B) C.A noE use Q (.ref Da) L (.ok .next) s')
    (hfr : freeOk C ρ scope.names = true) (hk : scope.kind = .function) (hnd : (scope.names.map (·.1)).Nodup) (hz : Ps.length ≤ sizeLine)
    (hs : ∀ x, foldedSetIterable iter C.env x = pure x) :
    wpAny (md B) C.A (comprehension (.ListComp elt [⟨t, iter, [], 0⟩] scope pos) scope C.env epos (newList []) false (eval iter C.env) use) Q noE s := by
  refine comp_set f hh hi (fun s₂ h₄ I Da rr hsle hsz h04 hI f₄ hmI hmD x₄ hq₀ => ?_) hfr hk hnd hs
  have loop := comp_loopF (lo := s.heap.objs.size) (C := compC C scope (Da + 1) s.heap) (iter := iter) (scope := scope) (pos := pos) (I := I) (Da := Da) hh (hx (Da + 1) s.heap) _ { s₂ with heap := h₄ } [] 0 f₄ (.inr (.inl rfl)) hmI (Heap.get?_none_of_le hI) x₄ (.inr (.inr (.inl rfl))) hmD (Heap.get?_none_of_le hsle)
    hq₀ ⟨[], rfl, rfl, .nil, fun _ h => nomatch h⟩ (by simpa using hz) h04
  have fin : ∀ r s', (match r with | .ok _ => Rest { s₂ with heap := h₄ } s' ∧ Frm (compC C scope (Da + 1) s.heap) (fun b => F b ∨ b = I ∨ b = Da ∨ (Da + 1 ≤ b ∧ b < h₄.objs.size)) s'.heap (cRho ρ scope) (fun _ => Option.none) ∧ ∃ vs', IsSeq s'.heap "list" Da vs' ∧ Rg (fun b => F b ∨ b = I ∨ b = Da ∨ (Da + 1 ≤ b ∧ b < h₄.objs.size)) s.heap.objs.size s'.heap vs' (0 + Ps.length) | .error _ => False : Prop) →
      compPost (md B) C.A noE use Q (.ref Da) (Da + 1) r s' := fun r s' h => by
    cases r with
    | error e => exact h.elim
    | ok fl =>
      obtain ⟨r', f', vs', hq, hr⟩ := h
      obtain ⟨as, g1, g2, g3, g4⟩ := hr
      have := hQ s' Da (Da + 1) ⟨⟨f'.pres, rr.trans ⟨r'.1, r'.2, r'.3⟩⟩, hsle, Nat.le_succ_of_le hsle, Nat.succ_ne_self Da, let ⟨m, hn, _⟩ := f'.loc; ⟨m, hn⟩, as, g1 ▸ hq, by omega, g3, fun q => (g4 _ q).2.1 (.inr (.inr (.inl rfl))), fun q => (g4 _ q).2.1 (.inr (.inr (.inr ⟨Nat.le_refl _, hsz⟩))), fun b hb => ⟨(g4 b hb).1, (g4 b hb).2.2⟩⟩
      cases use <;> exact this
  exact codeAny_mono loop fin
end Mine
open PySem PySem.W PyProof.Rows
set_option Elab.async false
set_option maxRecDepth 100000
set_option linter.unusedVariables false
set_option linter.unusedSimpArgs false
namespace Mine
variable {B : Bs} {C : Cx B} {ρ : Rho B} {μ : Mu B}
/-- a list of lists that the frame owns, whole -/
noncomputable def mW (a : Addr) (as : List Addr) (W : List (List D)) : Mu B := fun b => if b = a then some (as.map fun x => pv (.ref x)) else if b ∈ as then some ((W.getD (as.idxOf b) []).map pd) else none
theorem refs_all2 {F : Addr → Prop} {h : Heap} : ∀ as : List Addr, all2 (B := B) F h (as.map fun x => pv (.ref x)) (as.map Value.ref)
  | [] => trivial
  | a :: as => ⟨rfl, refs_all2 as⟩
theorem Ex.ownComp {elt t iter : Expr} {scope : Scope} {pos py spos : Pos} {y : Str} {Ps : List (Pd B)} {rest : List Stmt} {o : Out B} (hh : C.A.handled = Option.none) (hi : EvI C ρ (fun _ => none) iter Ps) (hx : ∀ L h₀, CompF (compC C scope L h₀) (cRho ρ scope) t elt Ps)
    (hz : Ps.length ≤ sizeLine) (hy : Sto C y) (h' : ∀ a as, as.length = Ps.length → as.Nodup → a ∉ as → Ex C (upd ρ y (pv (.ref a))) (mW a as (List.replicate Ps.length [.none, .none, .none])) rest o)
    (hsw : swapsWith (.ListComp elt [⟨t, iter, [], 0⟩] scope pos) (some (.Name y py)) spos.line C.env = pure true := by rfl)
    (hfr : freeOk C ρ scope.names = true := by rfl) (hk : scope.kind = .function := by rfl) (hnd : (scope.names.map (·.1)).Nodup := by decide)
    (hs : ∀ x, foldedSetIterable iter C.env x = pure x := by intro _; rfl) : Ex C ρ (fun _ => none) (.Assign [.Name y py] (.ListComp elt [⟨t, iter, [], 0⟩] scope pos) spos :: rest) o := fun F s f => by
  refine wpAny_execs_cons ?_
  rw [exec_Assign_Name_used _ _ _ _ hsw]
  refine wpAny_bind (wpAny_standAt (wpAny_bind ?_))
  show wpAny (md B) C.A (do let _ ← comprehension (.ListComp elt [⟨t, iter, [], 0⟩] scope pos) scope C.env _ (newList []) false (eval iter C.env) (some (PySem.assign (Expr.Name y py) C.env))) _ _ _
  refine wpAny_bind (comp_runF f hh hi hx (fun s' Da L ce => ?_) hfr hk hnd hz hs)
  obtain ⟨m, hn⟩ := ce.ns
  obtain ⟨oL, es, ep, e, hd, rr⟩ := id hn
  obtain ⟨as, v1, v2, v3, v4, v5, v6⟩ := ce.val
  have hlen : as.length = Ps.length := v2
  have hW : ∀ b Qs, mW (B := B) Da as (List.replicate Ps.length [.none, .none, .none]) b = some Qs → (b = Da ∧ Qs = as.map fun x => pv (.ref x)) ∨ (b ∈ as ∧ Qs = [pnone, pnone, pnone]) := fun b Qs q => by
    unfold mW at q
    by_cases hb : b = Da
    · rw [if_pos hb] at q; cases q; exact .inl ⟨hb, rfl⟩
    · rw [if_neg hb] at q
      by_cases hb2 : b ∈ as
      · rw [if_pos hb2] at q; cases q
        refine .inr ⟨hb2, ?_⟩
        have : as.idxOf b < Ps.length := by rw [← hlen]; exact List.idxOf_lt_length_iff.mpr hb2
        simp [List.getD_eq_getElem?_getD, List.getElem?_replicate, this]
      · rw [if_neg hb2] at q; cases q
  have hdom : ∀ b, (mW (B := B) Da as (List.replicate Ps.length [.none, .none, .none]) b).isSome = true → ((fun _ => none : Mu B) b).isSome = true ∨ s.heap.objs.size ≤ b := fun b q => by
    obtain ⟨Qs, q⟩ := Option.isSome_iff_exists.mp q
    rcases hW b Qs q with ⟨rfl, _⟩ | ⟨hb, _⟩
    · exact .inr ce.dD
    · exact .inr (v6 b hb).1
  have hF : ∀ b, (F b ∨ b = L ∨ b = Da ∨ b ∈ as) → F b ∨ s.heap.objs.size ≤ b := fun b q => by
    rcases q with q | rfl | rfl | q
    · exact .inl q
    · exact .inr ce.dL
    · exact .inr ce.dD
    · exact .inr (v6 b q).1
  have f₁ : Frm C (fun b => F b ∨ b = L ∨ b = Da ∨ b ∈ as) s'.heap ρ (fun _ => none) := f.grow ce.stp.p (fun b q => (hF b q).imp id fun q => Heap.get?_none_of_le q) (fun b q => .inl q) fun b q => by
    rcases q with q | rfl | rfl | q
    · exact Nat.lt_of_lt_of_le (f.lt b q) ce.stp.p.size
    · exact Heap.lt_size e
    · obtain ⟨n, e⟩ := v1; exact Heap.lt_size e
    · obtain ⟨n, e⟩ := (v6 b q).2; exact Heap.lt_size e
  have f' : Frm C (fun b => F b ∨ b = L ∨ b = Da ∨ b ∈ as) s'.heap ρ (mW Da as (List.replicate Ps.length [.none, .none, .none])) := { f₁ with
    lst := fun b Qs q => by
      rcases hW b Qs q with ⟨rfl, rfl⟩ | ⟨hb, rfl⟩
      · exact ⟨.inr (.inr (.inl rfl)), Nat.le_trans f.pres.size ce.dD, _, v1, refs_all2 as⟩
      · exact ⟨.inr (.inr (.inr hb)), Nat.le_trans f.pres.size (v6 b hb).1, _, (v6 b hb).2, of_none, of_none, of_none, trivial⟩ }
  have hm : ¬ Mut C (mW Da as (List.replicate Ps.length [.none, .none, .none])) L := fun q => by
    rcases q with q | ⟨x, h1, h2, h3⟩ | q
    · exact Nat.lt_irrefl _ (Nat.lt_of_lt_of_le (f.lt L (q ▸ f.fl)) ce.dL)
    · obtain ⟨c, u, hl, hFc, _⟩ := f.own x h1 h2
      rw [h3] at hl; cases hl
      exact Nat.lt_irrefl _ (Nat.lt_of_lt_of_le (f.lt L hFc) ce.dL)
    · obtain ⟨Qs, q⟩ := Option.isSome_iff_exists.mp q
      rcases hW L Qs q with ⟨q, _⟩ | ⟨q, _⟩
      · exact ce.ne q
      · exact v5 q
  show wpAny (md B) C.A (do standAt py; bindName C.env y (.ref Da)) _ _ _
  refine wpAny_bind (wpAny_standAt (wpAny_bindName (wpMono (st_any (P := pv (.ref Da)) f' rfl hy) fun _ s'' ⟨r₂, f₂, p₂⟩ => ?_)))
  obtain ⟨sl₂, e₂⟩ := p₂.data e hm fun vs q => by rw [hd] at q; cases q
  have hn₂ : s''.heap.Ns L m := ⟨_, es, ep, e₂, hd, rr⟩
  refine ⟨m, hn₂, fun h'' hs' => ?_⟩
  have pA : Pres B (Mut C (fun _ => none)) s.heap s''.heap := Pres.mut hdom ce.stp.p.any p₂
  have pB : Pres B (Mut C (fun _ => none)) s.heap h'' := pA.thenS hs' (Heap.get?_none_of_le ce.dL) e₂ (plain_dict hd)
  have f₃ := f₂.touch hs'.extBut (Nat.le_of_eq hs'.1.symm) (.inr (.inl rfl)) hm (Heap.get?_none_of_le (Nat.le_trans f.pres.size ce.dL)) (fun o' e' => by rw [e₂] at e'; cases e'; exact plain_dict hd) (fun c v hc => (ns_ne_cell hn₂ hc).symm)
  refine wpAny_pure (wpAny_pure (wpMono (h' Da as hlen v3 v4 _ { s'' with heap := h'' } f₃) fun fl s₃ ⟨r₃, h₃⟩ => ⟨?_, ?_⟩))
  · exact ⟨r₃.1.trans (r₂.1.trans ce.stp.r.1), r₃.2.trans (r₂.2.trans ce.stp.r.2), r₃.3.trans (r₂.3.trans ce.stp.r.3)⟩
  · have n : Nxt C F (fun _ => none) s.heap (upd ρ y (pv (.ref Da))) (mW Da as (List.replicate Ps.length [.none, .none, .none])) h'' (fun b => F b ∨ b = L ∨ b = Da ∨ b ∈ as) := ⟨fun b q => .inl q, hF, f₃, hdom⟩
    exact n.out pB h₃
theorem refs_of {F : Addr → Prop} {h : Heap} : ∀ {as : List Addr} {vs : List Value}, all2 (B := B) F h (as.map fun x => pv (.ref x)) vs → vs = as.map Value.ref
  | [], [], _ => rfl
  | a :: as, v :: vs, x => by
    have hv1 : v = .ref a := x.1
    rw [hv1, List.map_cons, refs_of x.2]
  | [], _ :: _, x => x.elim
  | _ :: _, [], x => x.elim
theorem reps_rows {F : Addr → Prop} {h : Heap} : ∀ {as : List Addr} {W : List (List D)}, (∀ (i : Nat) (b : Addr), as[i]? = some b → ∃ w, W[i]? = some w ∧ rep F h (.ref b) (.lst w)) → W.length = as.length → reps F h (as.map Value.ref) (W.map .lst)
  | [], [], _, _ => by simp [reps]
  | b :: as, w :: W, row, hl => by
    simp only [List.map_cons, reps]
    obtain ⟨w', h1, h2⟩ := row 0 b rfl
    simp at h1; subst h1
    refine ⟨h2, reps_rows (fun i c hc => ?_) (by simpa using hl)⟩
    obtain ⟨w'', h3, h4⟩ := row (i + 1) c (by simpa using hc)
    exact ⟨w'', by simpa using h3, h4⟩
  | [], _ :: _, _, hl => by simp at hl
  | _ :: _, [], _, hl => by simp at hl
/-- the frame's own list of lists goes out -/
theorem Ex1.retOwn2 {e : Expr} {pos : Pos} {a : Addr} {as : List Addr} {W : List (List D)} (hx : Ev C ρ (mW a as W) e (pv (.ref a))) (hn : as.Nodup) (ha : a ∉ as) (hl : W.length = as.length) : Ex1 C ρ (mW a as W) (.Return (some e) pos) (.ret (pd (.lst (W.map .lst)))) := fun F s f =>
  wpAny_Return_some (wpMono (hx F s f) fun v s₁ ⟨p₁, e₁⟩ => by
    obtain rfl : v = .ref a := e₁
    have f₁ := f.step p₁.p
    have ha' : mW (B := B) a as W a = some (as.map fun x => pv (.ref x)) := if_pos rfl
    obtain ⟨hF, h0, vs, hq, hv⟩ := f₁.lst a _ ha'
    refine ⟨p₁.r, p₁.p.any, f₁.pres, ?_⟩
    have hge : C.h₀.objs.size ≤ a := h0
    have hvs : vs = as.map Value.ref := refs_of hv
    subst hvs
    simp only [pd, rep]
    refine ⟨a, _, rfl, fun q => Nat.lt_irrefl _ (Nat.lt_of_lt_of_le q.2 hge), hq, ?_⟩
    have row : ∀ (i : Nat) (b : Addr), as[i]? = some b → ∃ w, W[i]? = some w ∧ rep (low F C.h₀.objs.size) s₁.heap (.ref b) (.lst w) := fun i b hi => by
      have hb : b ∈ as := List.mem_of_getElem? hi
      have hilt : i < as.length := by
        rcases Nat.lt_or_ge i as.length with q | q
        · exact q
        · rw [List.getElem?_eq_none q] at hi; cases hi
      have hidx : as.idxOf b = i := by
        have : as[i] = b := by rw [List.getElem?_eq_getElem hilt] at hi; exact Option.some.inj hi
        rw [← this]; exact hn.idxOf_getElem i hilt
      have hbn : b ≠ a := fun q => ha (q ▸ hb)
      have e : mW (B := B) a as W b = some ((W.getD i []).map pd) := by unfold mW; rw [if_neg hbn, if_pos hb, hidx]
      obtain ⟨hF', h0', ws, hq', hv'⟩ := f₁.lst b _ e
      have hge' : C.h₀.objs.size ≤ b := h0'
      refine ⟨W.getD i [], by rw [List.getD_eq_getElem?_getD, List.getElem?_eq_getElem (by omega)]; rfl, ?_⟩
      simp only [rep]
      exact ⟨b, ws, rfl, fun q => Nat.lt_irrefl _ (Nat.lt_of_lt_of_le q.2 hge'), hq', (all2.pds.mp hv').weak fun b q => .inl q.1⟩
    exact reps_rows row hl)
/-- a cell of it is set -/
theorem mW_set {a b : Addr} {as : List Addr} {W : List (List D)} {i k : Nat} {d : D} (hn : as.Nodup) (ha : a ∉ as) (hl : W.length = as.length) (hi : as[i]? = some b) : updM (mW (B := B) a as W) b (((W.getD i []).map pd).set k (pd d)) = mW a as (W.set i ((W.getD i []).set k d)) := by
  have hb : b ∈ as := List.mem_of_getElem? hi
  have hilt : i < as.length := by
    rcases Nat.lt_or_ge i as.length with q | q
    · exact q
    · rw [List.getElem?_eq_none q] at hi; cases hi
  have hidx : as.idxOf b = i := by
    have : as[i] = b := by rw [List.getElem?_eq_getElem hilt] at hi; exact Option.some.inj hi
    rw [← this]; exact hn.idxOf_getElem i hilt
  have hbn : b ≠ a := fun q => ha (q ▸ hb)
  funext c
  unfold updM mW
  by_cases hcb : c = b
  · subst hcb
    rw [if_pos rfl, if_neg hbn, if_pos hb, hidx]
    congr 1
    rw [List.getD_eq_getElem?_getD, List.getD_eq_getElem?_getD, List.getElem?_set_self (by omega)]
    simp
  · rw [if_neg hcb]
    by_cases hca : c = a
    · rw [if_pos hca, if_pos hca]
    · rw [if_neg hca, if_neg hca]
      by_cases hm : c ∈ as
      · rw [if_pos hm, if_pos hm]
        have : as.idxOf c ≠ i := fun q => hcb (by
          have h1 : as.idxOf c < as.length := List.idxOf_lt_length_iff.mpr hm
          have h2 : as[as.idxOf c] = c := List.getElem_idxOf h1
          have h3 : as[i] = b := by rw [List.getElem?_eq_getElem hilt] at hi; exact Option.some.inj hi
          rw [← h2, ← h3]; congr 1)
        rw [List.getD_eq_getElem?_getD, List.getD_eq_getElem?_getD, List.getElem?_set_ne (fun q => this q.symm)]
      · rw [if_neg hm, if_neg hm]
end Mine
open PySem PySem.W PyProof.Rows
set_option Elab.async false
set_option maxRecDepth 100000
set_option linter.unusedVariables false
set_option linter.unusedSimpArgs false
namespace Mine
variable {B : Bs} {C : Cx B} {ρ : Rho B} {μ : Mu B}
open PySem.SeqAt
theorem ne_nil {A : Around} {E : Value → Shared → Prop} {s : Shared} {l b : Addr} {vs : List Value} {Q : Value → Shared → Prop} (hl : IsSeq s.heap "list" l vs) (hb : IsSeq s.heap "list" b []) (hu : A.units < cLine) (h : Q (.bool (!vs.isEmpty)) s) : wpAny (md B) A (compareOp .NotEq (.ref l) (.ref b)) Q E s := by
  obtain ⟨n, ho⟩ := hl
  obtain ⟨n2, ho2⟩ := hb
  cases vs with
  | nil =>
    exact richCompare_meets_room (op := .NotEq) ⟨_, ho, rfl⟩ ⟨_, ho2, rfl⟩ F.slot_list_ne F.entry_list_ne (F.args_list_ne_2 _ _) (list_neAt l b [].toArray [].toArray n n2 none none #[] #[] rfl (fun _ => true))
      ⟨ho, ho2, fun j h1 => absurd h1 (Nat.not_lt_zero _), show Value.bool false ≠ Value.notImplemented ∧ Q (.bool false) s from ⟨(fun x => nomatch x), h⟩⟩ hu
  | cons v vs =>
    exact richCompare_meets_room (op := .NotEq) ⟨_, ho, rfl⟩ ⟨_, ho2, rfl⟩ F.slot_list_ne F.entry_list_ne (F.args_list_ne_2 _ _) (list_ne_lengthsAt l b (v :: vs).toArray [].toArray n n2 none none #[] #[] (by simp))
      ⟨ho, ho2, show Value.bool true ≠ Value.notImplemented ∧ Q (.bool true) s from ⟨(fun x => nomatch x), h⟩⟩ hu
theorem Room.u {n : Nat} {A : Around} (r : Room n A) : A.units < cLine := by have := r.units; have h9 : cLine = 9900 := rfl; omega
/-- x != [] -/
theorem Ev.neNil {l r : Expr} {pos : Pos} {x : List D} (hl : Ev C ρ μ l (pd (.lst x))) (hr : Ev C ρ μ r (pd (.lst []))) (hro : Room 0 C.A) (hm : behindInMarks .NotEq r = false := by with_unfolding_all rfl) : Ev C ρ μ (.Compare l [.NotEq] [r] pos) (pbool (!x.isEmpty)) :=
  Ev.cmp hl hr (fun F s a b f ha hb => by
    obtain ⟨c, vs, rfl, _, hq, hr⟩ := lst_of ha
    obtain ⟨d, ws, rfl, _, hq', hr'⟩ := lst_of hb
    have e2 := reps_length hr'
    have : ws = [] := List.eq_nil_of_length_eq_zero e2
    subst this
    have e1 := reps_length hr
    refine ne_nil hq hq' hro.u ⟨.refl, ?_⟩
    have : vs.isEmpty = x.isEmpty := by cases vs <;> cases x <;> simp_all
    rw [this]; exact of_bool) hm
end Mine
open PySem PySem.W PyProof.Rows
set_option Elab.async false
set_option maxRecDepth 100000
set_option linter.unusedVariables false
set_option linter.unusedSimpArgs false
namespace Mine
variable {B : Bs} {C : Cx B} {ρ : Rho B} {μ : Mu B}
open PySem.SeqAt
/-- the script: a list of ints, whoever laid it -/
noncomputable def pscr (ns : List Int) : Pd B where
  p F h v := ∃ a vs, v = .ref a ∧ ¬ F a ∧ h.IsList a (List.toArray vs) ∧ IntsAre vs ns
  mono := fun ⟨a, vs, e, hF, ⟨o, g, hc, n, hd⟩, hi⟩ p => ⟨a, vs, e, hF, ⟨o, p.obj _ _ g (.inl hF) (.inl (by unfold isVar isTab isFrm; rw [hc, hd]; rfl)), hc, n, hd⟩, hi⟩
  weak := fun ⟨a, vs, e, hF, ⟨o, g, hc, n, hd⟩, hi⟩ hw => ⟨a, vs, e, fun q => (hw a q).elim hF fun z => (by rw [z] at g; cases g), ⟨o, g, hc, n, hd⟩, hi⟩
theorem ne_nilI {A : Around} {E : Value → Shared → Prop} {s : Shared} {l b : Addr} {vs : List Value} {Q : Value → Shared → Prop} (hl : s.heap.IsList l vs.toArray) (hb : IsSeq s.heap "list" b []) (hu : A.units < cLine) (h : Q (.bool (!vs.isEmpty)) s) : wpAny (md B) A (compareOp .NotEq (.ref l) (.ref b)) Q E s := by
  obtain ⟨⟨cls, dd, data, sl⟩, ho, hc, n, hd⟩ := hl
  obtain ⟨n2, ho2⟩ := hb
  dsimp only at hc hd
  subst hc hd
  cases vs with
  | nil =>
    exact richCompare_meets_room (op := .NotEq) ⟨_, ho, rfl⟩ ⟨_, ho2, rfl⟩ F.slot_list_ne F.entry_list_ne (F.args_list_ne_2 _ _) (list_neAt l b [].toArray [].toArray n n2 dd none sl #[] rfl (fun _ => true))
      ⟨ho, ho2, fun j h1 => absurd h1 (Nat.not_lt_zero _), show Value.bool false ≠ Value.notImplemented ∧ Q (.bool false) s from ⟨(fun x => nomatch x), h⟩⟩ hu
  | cons v vs =>
    exact richCompare_meets_room (op := .NotEq) ⟨_, ho, rfl⟩ ⟨_, ho2, rfl⟩ F.slot_list_ne F.entry_list_ne (F.args_list_ne_2 _ _) (list_ne_lengthsAt l b (v :: vs).toArray [].toArray n n2 dd none sl #[] (by simp))
      ⟨ho, ho2, show Value.bool true ≠ Value.notImplemented ∧ Q (.bool true) s from ⟨(fun x => nomatch x), h⟩⟩ hu
theorem Ev.neNilI {l r : Expr} {pos : Pos} {ns : List Int} (hl : Ev C ρ μ l (pscr ns)) (hr : Ev C ρ μ r (pd (.lst []))) (hro : Room 0 C.A) (hm : behindInMarks .NotEq r = false := by with_unfolding_all rfl) : Ev C ρ μ (.Compare l [.NotEq] [r] pos) (pbool (!ns.isEmpty)) :=
  Ev.cmp hl hr (fun F s a b f ha hb => by
    obtain ⟨c, vs, rfl, _, hq, hi⟩ := ha
    obtain ⟨d, ws, rfl, _, hq', hr'⟩ := lst_of hb
    have e2 := reps_length hr'
    have : ws = [] := List.eq_nil_of_length_eq_zero e2
    subst this
    refine ne_nilI hq hq' hro.u ⟨.refl, ?_⟩
    have : vs.isEmpty = ns.isEmpty := by cases hi <;> rfl
    rw [this]; exact of_bool) hm
theorem reps_ints {F : Addr → Prop} {h : Heap} : ∀ {vs : List Value} {ns : List Int}, IntsAre vs ns → reps F h vs (ns.map .int)
  | _, _, .nil => by simp [reps]
  | _, _, .cons n t r => by simp only [List.map_cons, reps, rep]; exact ⟨⟨_, rfl⟩, reps_ints r⟩
theorem Ev.slI {value : Expr} {lo hi : Option Expr} {a b : Option Int} {p pos : Pos} {ns : List Int} (hv : Ev C ρ μ value (pscr ns)) (ha : EvP C ρ μ lo a) (hb : EvP C ρ μ hi b) (h1 : nn a) (h2 : nn b) (hl : ns.length ≤ sizeLine) :
    Ev C ρ μ (.Subscript value (.Slice lo hi Option.none p) pos) (pd (.lst (slc (ns.map .int) a b))) := fun F s f => by
  refine Subscript_ (wpMono (hv F s f) fun o s₁ ⟨p₁, h₁⟩ => wpAny_Slice (wpMono (ha.run (f.step p₁.p)) fun vl s₂ ⟨p₂, pl, e₂, m₂⟩ => wpMono (hb.run ((f.step p₁.p).step p₂.p)) fun vu s₃ ⟨p₃, pu, e₃, m₃⟩ => wpAny_evalPart_none ?_))
  have h₃ := (pscr (B := B) ns).mono h₁ (p₂.trans p₃).p.any
  have f₃ := (((f.step p₁.p).step p₂.p).step p₃.p)
  have h₄ := (pscr (B := B) ns).mono h₃ (Pres.push (B := B) (F := F) { cls := .type "slice", data := .fields #[vl, vu, Value.none] })
  obtain ⟨c, vs, rfl, hF, hq', hI⟩ := h₄
  have hlen : vs.length = ns.length := hI.length
  have part : ∀ p : Option (Int × Tok), IsPart (partValue p) (p.map (·.1)) := fun p => by
    cases p with
    | none => exact .none
    | some p => exact .int _ _
  have pl' := part pl
  have pu' := part pu
  rw [← e₂, m₂] at pl'
  rw [← e₃, m₃] at pu'
  refine tail_any (s := { s₃ with heap := s₃.heap.push { cls := .type "slice", data := .fields #[vl, vu, Value.none] } }) hq'.typeIs slot_list_getitem.lookup (wpAny_getItem_list_slice hq' ⟨_, push_get rfl, rfl, rfl⟩ pl' pu' .none (by simp) ?_ (by rw [List.size_toArray, hlen]; exact hl)) rfl
  refine ⟨((p₁.trans p₂).trans p₃).trans ⟨(Pres.push _).trans (.push _), ⟨rfl, rfl, rfl⟩⟩, ?_⟩
  simp only [pd, rep]
  have e : slicePick vs.toArray a b Option.none = (slc vs a b).toArray := by
    rw [slicePick_plain]
    congr 1
    exact pick_slc vs a b h1 h2
  refine ⟨_, slc vs a b, rfl, fun q => ?_, ⟨0, ?_⟩, reps_slc (reps_ints hI)⟩
  · have := f₃.lt _ q
    simp only [Heap.size_push] at this
    exact Nat.lt_irrefl _ (Nat.lt_of_succ_lt this)
  · rw [e]; exact push_get rfl
end Mine
open PySem PySem.W PyProof.Rows
set_option Elab.async false
set_option maxRecDepth 100000
set_option maxHeartbeats 8000000
namespace Mine
noncomputable abbrev noX : PySem.Expr := .Constant .none 0 ⟨0, 0, 0, 0⟩
noncomputable abbrev noSc : Scope := { kind := .module, names := [], isGenerator := false, isCoroutine := false, more := [] }
noncomputable abbrev noAr : Arguments := { posonlyargs := [], args := [], vararg := none, kwonlyargs := [], kw_defaults := [], kwarg := none, defaults := [] }
/-- a statement's target, its test, what stands in it, its scope, its name, its arguments -/
noncomputable def partsS : Stmt → PySem.Expr × PySem.Expr × List Stmt × Scope × Str × Arguments
  | .For t _ b _ _ => (t, noX, b, noSc, ⟨#[]⟩, noAr)
  | .While t b _ _ => (noX, t, b, noSc, ⟨#[]⟩, noAr)
  | .If _ b _ _ => (noX, noX, b, noSc, ⟨#[]⟩, noAr)
  | .FunctionDef n a b _ _ _ sc .. => (noX, noX, b, sc, n, a)
  | _ => (noX, noX, [], noSc, ⟨#[]⟩, noAr)
noncomputable def stO (i : Nat) : PySem.Expr × PySem.Expr × List Stmt × Scope × Str × Arguments := partsS (PySem.Challenge.pw_ph0023_01.main.body.getD i (.Pass ⟨0, 0, 0, 0⟩))
/-- the i-th def of the text, as it lies -/
noncomputable def fnO (i : Nat) (m : Str) (tk c : Nat) : Obj := ⟨.type "function", Option.none, .func { name := (stO i).2.2.2.2.1, qualname := (stO i).2.2.2.2.1, params := (stO i).2.2.2.2.2, body := .stmts (stO i).2.2.1, scope := (stO i).2.2.2.1, globals := 3, closure := [], defaults := .none, kwdefaults := .none, pyModule := .str m tk, code := .ref c }, #[]⟩
noncomputable def ent (P : Params) (x : Str) (t : Nat) (v : Value) : DictEntry := ⟨PyData.keyHash P x, .str x t, v⟩
noncomputable def k3 (P : Params) : Obj := ⟨(.type "dict"), Option.none, .dict #[ent P (Str.ofString "__name__") 165 (.str (Str.ofString "law_ph0023_01") 251), ent P (Str.ofString "__doc__") 166 .none, ent P (Str.ofString "__package__") 167 .none, ent P (Str.ofString "__loader__") 168 (.builtin "__main__.__loader__#opaque"), ent P (Str.ofString "__spec__") 169 .none, ent P (Str.ofString "__annotations__") 170 (.ref 6), ent P (Str.ofString "__builtins__") 171 (.ref 4), ent P (Str.ofString "__file__") 173 (.str (Str.ofString "/claim/cut.py") 172), ent P (Str.ofString "__cached__") 174 .none, ent P (Str.ofString "search_reverse") 201 (.ref 21), ent P (Str.ofString "Error") 223 (.ref 31), ent P (Str.ofString "error_reply") 239 (.ref 44), ent P (Str.ofString "parse257") 250 (.ref 53), ent P (Str.ofString "_law_sign") 259 (.ref 60), ent P (Str.ofString "_law_deeds") 266 (.ref 67), ent P (Str.ofString "_law_nexts") 272 (.ref 72), ent P (Str.ofString "_law_prog") 280 (.ref 79), ent P (Str.ofString "_law_goal") 288 (.ref 86), ent P (Str.ofString "_law_refused") 296 (.ref 93), ent P (Str.ofString "_law_step") 310 (.ref 100), ent P (Str.ofString "_law_walks") 316 (.ref 105), ent P (Str.ofString "_law_stand") 335 (.ref 112), ent P (Str.ofString "_law_pushed") 350 (.ref 119), ent P (Str.ofString "_law_once") 356 (.ref 124), ent P (Str.ofString "law") 362 (.ref 129)] 25, #[]⟩
noncomputable def k20 (_ : Params) : Obj := ⟨(.type "code"), Option.none, .fields #[(.str (Str.ofString "search_reverse") 189), (.str (Str.ofString "search_reverse") 190), (.str (Str.ofString "/claim/cut.py") 191), (.int 2 0), (.int 3 0), (.int 0 0), (.int 0 0), (.int 3 0), (.ref 15), (.bool true), (.int 181 0), (.ref 16), .none, (.ref 17), (.ref 18), (.ref 19), (.int 199 0), (.int 2 0), (.str (Str.ofString "/claim/cut.py") 200)], #[]⟩
noncomputable def k21 (_ : Params) : Obj := fnO 1 (Str.ofString "cpy313.idlelib.searchengine") 187 20
noncomputable def k30 (P : Params) : Obj := ⟨(.type "dict"), Option.none, .dict #[ent P (Str.ofString "__module__") 211 (.str (Str.ofString "cpy313.ftplib") 202), ent P (Str.ofString "__firstlineno__") 215 (.int 18 214), ent P (Str.ofString "__static_attributes__") 216 (.ref 29), ent P (Str.ofString "__weakref__") 218 (.ref 32), ent P (Str.ofString "__doc__") 219 .none] 3, #[]⟩
noncomputable def k31 (_ : Params) : Obj := ⟨(.type "type"), Option.none, .cls { name := (Str.ofString "Error"), bases := [(.type "Exception")], mro := [(.ref 31), (.type "Exception"), (.type "BaseException"), (.type "object")], ns := 30, qualname := (Str.ofString "Error"), hasDict := true, slotNames := [], subclasses := [(.ref 44)], abstract := false, collection := Option.none, hasDel := false }, #[(some (.ref 22)), Option.none, (some (.str (Str.ofString "Error") 204)), (some (.str (Str.ofString "Error") 212)), (some (.builtin "Exception.__new__")), (some (.bool true))]⟩
noncomputable def k43 (P : Params) : Obj := ⟨(.type "dict"), Option.none, .dict #[ent P (Str.ofString "__module__") 231 (.str (Str.ofString "cpy313.ftplib") 202), ent P (Str.ofString "__firstlineno__") 235 (.int 20 234), ent P (Str.ofString "__static_attributes__") 236 (.ref 42), ent P (Str.ofString "__doc__") 237 .none] 2, #[]⟩
noncomputable def k44 (_ : Params) : Obj := ⟨(.type "type"), Option.none, .cls { name := (Str.ofString "error_reply"), bases := [(.ref 31)], mro := [(.ref 44), (.ref 31), (.type "Exception"), (.type "BaseException"), (.type "object")], ns := 43, qualname := (Str.ofString "error_reply"), hasDict := true, slotNames := [], subclasses := [], abstract := false, collection := Option.none, hasDel := false }, #[(some (.ref 35)), Option.none, (some (.str (Str.ofString "error_reply") 224)), (some (.str (Str.ofString "error_reply") 232)), (some (.builtin "Exception.__new__")), (some (.bool true))]⟩
noncomputable def k52 (_ : Params) : Obj := ⟨(.type "code"), Option.none, .fields #[(.str (Str.ofString "parse257") 240), (.str (Str.ofString "parse257") 241), (.str (Str.ofString "/claim/cut.py") 242), (.int 22 0), (.int 1 0), (.int 0 0), (.int 0 0), (.int 3 0), (.ref 47), (.bool true), (.int 181 0), (.ref 48), .none, (.ref 49), (.ref 50), (.ref 51), (.int 248 0), (.int 22 0), (.str (Str.ofString "/claim/cut.py") 249)], #[]⟩
noncomputable def k53 (_ : Params) : Obj := fnO 5 (Str.ofString "cpy313.ftplib") 202 52
noncomputable def k59 (_ : Params) : Obj := ⟨(.type "code"), Option.none, .fields #[(.str (Str.ofString "_law_sign") 253), (.str (Str.ofString "_law_sign") 254), (.str (Str.ofString "/claim/cut.py") 255), (.int 40 0), (.int 1 0), (.int 0 0), (.int 0 0), (.int 3 0), (.ref 54), (.bool true), (.int 181 0), (.ref 55), .none, (.ref 56), (.ref 57), (.ref 58), (.int 257 0), (.int 40 0), (.str (Str.ofString "/claim/cut.py") 258)], #[]⟩
noncomputable def k60 (_ : Params) : Obj := fnO 7 (Str.ofString "law_ph0023_01") 251 59
noncomputable def k66 (_ : Params) : Obj := ⟨(.type "code"), Option.none, .fields #[(.str (Str.ofString "_law_deeds") 260), (.str (Str.ofString "_law_deeds") 261), (.str (Str.ofString "/claim/cut.py") 262), (.int 44 0), (.int 1 0), (.int 0 0), (.int 0 0), (.int 3 0), (.ref 61), (.bool true), (.int 181 0), (.ref 62), .none, (.ref 63), (.ref 64), (.ref 65), (.int 264 0), (.int 44 0), (.str (Str.ofString "/claim/cut.py") 265)], #[]⟩
noncomputable def k67 (_ : Params) : Obj := fnO 8 (Str.ofString "law_ph0023_01") 251 66
noncomputable def k71 (_ : Params) : Obj := ⟨(.type "code"), Option.none, .fields #[(.str (Str.ofString "_law_nexts") 267), (.str (Str.ofString "_law_nexts") 268), (.str (Str.ofString "/claim/cut.py") 269), (.int 46 0), (.int 1 0), (.int 0 0), (.int 0 0), (.int 3 0), (.ref 68), (.bool true), (.int 181 0), (.ref 69), .none, .none, .none, (.ref 70), (.int 270 0), (.int 46 0), (.str (Str.ofString "/claim/cut.py") 271)], #[]⟩
noncomputable def k72 (_ : Params) : Obj := fnO 9 (Str.ofString "law_ph0023_01") 251 71
noncomputable def k78 (_ : Params) : Obj := ⟨(.type "code"), Option.none, .fields #[(.str (Str.ofString "_law_prog") 273), (.str (Str.ofString "_law_prog") 274), (.str (Str.ofString "/claim/cut.py") 275), (.int 48 0), (.int 0 0), (.int 0 0), (.int 0 0), (.int 3 0), (.ref 73), (.bool true), (.int 181 0), (.ref 74), .none, (.ref 75), (.ref 76), (.ref 77), (.int 278 0), (.int 48 0), (.str (Str.ofString "/claim/cut.py") 279)], #[]⟩
noncomputable def k79 (_ : Params) : Obj := fnO 10 (Str.ofString "law_ph0023_01") 251 78
noncomputable def k85 (_ : Params) : Obj := ⟨(.type "code"), Option.none, .fields #[(.str (Str.ofString "_law_goal") 281), (.str (Str.ofString "_law_goal") 282), (.str (Str.ofString "/claim/cut.py") 283), (.int 65 0), (.int 2 0), (.int 0 0), (.int 0 0), (.int 3 0), (.ref 80), (.bool true), (.int 181 0), (.ref 81), .none, (.ref 82), (.ref 83), (.ref 84), (.int 286 0), (.int 65 0), (.str (Str.ofString "/claim/cut.py") 287)], #[]⟩
noncomputable def k86 (_ : Params) : Obj := fnO 11 (Str.ofString "law_ph0023_01") 251 85
noncomputable def k92 (_ : Params) : Obj := ⟨(.type "code"), Option.none, .fields #[(.str (Str.ofString "_law_refused") 289), (.str (Str.ofString "_law_refused") 290), (.str (Str.ofString "/claim/cut.py") 291), (.int 67 0), (.int 1 0), (.int 0 0), (.int 0 0), (.int 3 0), (.ref 87), (.bool true), (.int 181 0), (.ref 88), .none, (.ref 89), (.ref 90), (.ref 91), (.int 294 0), (.int 67 0), (.str (Str.ofString "/claim/cut.py") 295)], #[]⟩
noncomputable def k93 (_ : Params) : Obj := fnO 12 (Str.ofString "law_ph0023_01") 251 92
noncomputable def k99 (_ : Params) : Obj := ⟨(.type "code"), Option.none, .fields #[(.str (Str.ofString "_law_step") 297), (.str (Str.ofString "_law_step") 298), (.str (Str.ofString "/claim/cut.py") 299), (.int 73 0), (.int 4 0), (.int 0 0), (.int 0 0), (.int 3 0), (.ref 94), (.bool true), (.int 181 0), (.ref 95), .none, (.ref 96), (.ref 97), (.ref 98), (.int 308 0), (.int 73 0), (.str (Str.ofString "/claim/cut.py") 309)], #[]⟩
noncomputable def k100 (_ : Params) : Obj := fnO 13 (Str.ofString "law_ph0023_01") 251 99
noncomputable def k104 (_ : Params) : Obj := ⟨(.type "code"), Option.none, .fields #[(.str (Str.ofString "_law_walks") 311), (.str (Str.ofString "_law_walks") 312), (.str (Str.ofString "/claim/cut.py") 313), (.int 83 0), (.int 3 0), (.int 0 0), (.int 0 0), (.int 3 0), (.ref 101), (.bool true), (.int 181 0), (.ref 102), .none, .none, .none, (.ref 103), (.int 314 0), (.int 83 0), (.str (Str.ofString "/claim/cut.py") 315)], #[]⟩
noncomputable def k105 (_ : Params) : Obj := fnO 14 (Str.ofString "law_ph0023_01") 251 104
noncomputable def k111 (_ : Params) : Obj := ⟨(.type "code"), Option.none, .fields #[(.str (Str.ofString "_law_stand") 317), (.str (Str.ofString "_law_stand") 318), (.str (Str.ofString "/claim/cut.py") 319), (.int 99 0), (.int 5 0), (.int 0 0), (.int 0 0), (.int 3 0), (.ref 106), (.bool true), (.int 181 0), (.ref 107), .none, (.ref 108), (.ref 109), (.ref 110), (.int 333 0), (.int 99 0), (.str (Str.ofString "/claim/cut.py") 334)], #[]⟩
noncomputable def k112 (_ : Params) : Obj := fnO 15 (Str.ofString "law_ph0023_01") 251 111
noncomputable def k118 (_ : Params) : Obj := ⟨(.type "code"), Option.none, .fields #[(.str (Str.ofString "_law_pushed") 336), (.str (Str.ofString "_law_pushed") 337), (.str (Str.ofString "/claim/cut.py") 338), (.int 118 0), (.int 4 0), (.int 0 0), (.int 0 0), (.int 3 0), (.ref 113), (.bool true), (.int 181 0), (.ref 114), .none, (.ref 115), (.ref 116), (.ref 117), (.int 348 0), (.int 118 0), (.str (Str.ofString "/claim/cut.py") 349)], #[]⟩
noncomputable def k119 (_ : Params) : Obj := fnO 16 (Str.ofString "law_ph0023_01") 251 118
noncomputable def k123 (_ : Params) : Obj := ⟨(.type "code"), Option.none, .fields #[(.str (Str.ofString "_law_once") 351), (.str (Str.ofString "_law_once") 352), (.str (Str.ofString "/claim/cut.py") 353), (.int 131 0), (.int 3 0), (.int 0 0), (.int 0 0), (.int 3 0), (.ref 120), (.bool true), (.int 181 0), (.ref 121), .none, .none, .none, (.ref 122), (.int 354 0), (.int 131 0), (.str (Str.ofString "/claim/cut.py") 355)], #[]⟩
noncomputable def k124 (_ : Params) : Obj := fnO 17 (Str.ofString "law_ph0023_01") 251 123
noncomputable def k128 (_ : Params) : Obj := ⟨(.type "code"), Option.none, .fields #[(.str (Str.ofString "law") 357), (.str (Str.ofString "law") 358), (.str (Str.ofString "/claim/cut.py") 359), (.int 144 0), (.int 1 0), (.int 0 0), (.int 0 0), (.int 3 0), (.ref 125), (.bool true), (.int 181 0), (.ref 126), .none, .none, .none, (.ref 127), (.int 360 0), (.int 144 0), (.str (Str.ofString "/claim/cut.py") 361)], #[]⟩
noncomputable def k129 (_ : Params) : Obj := fnO 18 (Str.ofString "law_ph0023_01") 251 128
noncomputable def KK (P : Params) : Frag := [(3, k3 P), (20, k20 P), (21, k21 P), (30, k30 P), (31, k31 P), (43, k43 P), (44, k44 P), (52, k52 P), (53, k53 P), (59, k59 P), (60, k60 P), (66, k66 P), (67, k67 P), (71, k71 P), (72, k72 P), (78, k78 P), (79, k79 P), (85, k85 P), (86, k86 P), (92, k92 P), (93, k93 P), (99, k99 P), (100, k100 P), (104, k104 P), (105, k105 P), (111, k111 P), (112, k112 P), (118, k118 P), (119, k119 P), (123, k123 P), (124, k124 P), (128, k128 P), (129, k129 P)]
noncomputable abbrev KA : List Nat := [3, 20, 21, 30, 31, 43, 44, 52, 53, 59, 60, 66, 67, 71, 72, 78, 79, 85, 86, 92, 93, 99, 100, 104, 105, 111, 112, 118, 119, 123, 124, 128, 129]
end Mine
open PySem PySem.W PyProof.Rows
set_option Elab.async false
set_option maxRecDepth 100000
set_option maxHeartbeats 1000000
set_option linter.unusedVariables false
namespace Mine
variable {B : Bs}
noncomputable abbrev K1 (B : Bs) : Frag := KK B.w.params
theorem fn_deeds (HK : (K1 B).In B.hb) (x : Int) : Fn B 1 (.ref 67) [pint x] (pd (.lst [.int 0, .int (x.fmod 5), .int ((x.fdiv 5).fmod 5)])) := by
  refine Fn.intro (xs := [Str.ofString "code"]) (get_of HK rfl rfl rfl rfl) ?_ rfl ?_
  · intro A h₀ hr hh hb
    refine Ex.leave (Ex1.ret (Ev.list (EvL.cons Ev.int (EvL.cons (Ev.mod (Ev.name rfl) Ev.int (by decide)) (EvL.cons (Ev.mod (Ev.fdiv (Ev.name rfl) Ev.int (by decide) (by decide)) Ev.int (by decide)) EvL.nil)))))
  · exact bind1 fun a => rfl
end Mine
open PySem PySem.W PyProof.Rows
set_option Elab.async false
set_option maxRecDepth 100000
set_option maxHeartbeats 1000000
set_option linter.unusedVariables false
namespace Mine
variable {B : Bs}
noncomputable def nx (x k : Int) : D := .lst [.int (((x.fdiv 25).fdiv (3 ^ k.toNat)).fmod 3), .int (((x.fdiv 75).fdiv (3 ^ k.toNat)).fmod 3)]
theorem pow3 {C : Cx B} {ρ : Rho B} {μ : Mu B} {k : Int} {pos p2 p3 : Pos} {y : Str} {n1 : Nat} (h0 : 0 ≤ k) (h4 : k ≤ 4) (hk : ρ y = some (pint k)) (hd : (y == ("__debug__" : Str)) = false) (hc : (y == ("__classdict__" : Str)) = false) :
    Ev C ρ μ (.BinOp (.Constant (.int 3) n1 p2) .Pow (.Name y p3) pos) (pint (3 ^ k.toNat)) := Ev.pow Ev.int (Ev.name hk hd hc) h0 (by
      have : (Builtin.Int.intBits 3 : Int) = 2 := by decide +kernel
      rw [this]; omega)
theorem fn_nexts (HK : (K1 B).In B.hb) (x : Int) : Fn B 1 (.ref 72) [pint x] (pd (.lst [nx x 0, nx x 2, nx x 4])) := by
  refine Fn.intro (xs := [Str.ofString "code"]) (get_of HK rfl rfl rfl rfl) ?_ rfl ?_
  · intro A h₀ hr hh hb
    refine Ex.leave (Ex1.ret (Ev.comp hh (EvI.tuple (Ev.tuple (ds := [.int 0, .int 2, .int 4]) (EvL.cons Ev.int (EvL.cons Ev.int (EvL.cons Ev.int EvL.nil))))) (fun L h => CompT.map [0, 2, 4] (fun k => pd (.int k)) (nx x) (.inl rfl) ?_) (by show 3 ≤ sizeLine; decide)))
    intro k hk
    have h04 : 0 ≤ k ∧ k ≤ 4 := by simp at hk; omega
    have hp : (3 : Int) ^ k.toNat ≠ 0 ∧ ((3 : Int) ^ k.toNat).natAbs < 2 ^ 64 := by
      have : k.toNat ≤ 4 := by omega
      generalize k.toNat = m at this
      match m, this with
      | 0, _ | 1, _ | 2, _ | 3, _ | 4, _ => exact ⟨by decide, by decide⟩
    exact Ev.list (ds := [_, _]) (EvL.cons (Ev.mod (Ev.fdiv (Ev.fdiv (Ev.name rfl) Ev.int (by decide) (by decide)) (pow3 h04.1 h04.2 rfl rfl rfl) hp.1 hp.2) Ev.int (by decide)) (EvL.cons (Ev.mod (Ev.fdiv (Ev.fdiv (Ev.name rfl) Ev.int (by decide) (by decide)) (pow3 h04.1 h04.2 rfl rfl rfl) hp.1 hp.2) Ev.int (by decide)) EvL.nil))
  · exact bind1 fun a => rfl
end Mine
open PySem PySem.W PyProof.Rows
set_option Elab.async false
set_option maxRecDepth 100000
set_option maxHeartbeats 1000000
set_option linter.unusedVariables false
namespace Mine
variable {B : Bs}
/-- the name told from what is left -/
noncomputable def nm : List Nat → List Nat
  | [] => []
  | c :: r => if c = 34 then (match r with | d :: r' => if d = 34 then 34 :: nm r' else [] | [] => []) else c :: nm r
theorem nm_ne {c : Nat} (r : List Nat) (h : c ≠ 34) : nm (c :: r) = c :: nm r := by cases r <;> simp [nm, h]
theorem glob1 (HK : (K1 B).In B.hb) {x : Str} {v : Value} (e : nsIn (K1 B) mainGlobals x = some (some v)) : B.mg x = some v := glob_of HK e
theorem Ev.bltK {C : Cx B} {ρ : Rho B} {μ : Mu B} {K : Frag} (HK : K.In B.hb) {x : Str} {pos : Pos} {v : Value} (hk : C.env.kindOf x = some .globalImplicit) (e : nsIn K mainGlobals x = some Option.none) (hv : bootBuiltins x = some v) (hn : x ≠ "__name__") (hd : (x == ("__debug__" : Str)) = false) : Ev C ρ μ (.Name x pos) (pv v) :=
  Ev.blt hk (blt_of HK e) (by rw [B.hbl x hn]; exact hv) hd
theorem getElem_of_drop {l r : List Nat} {i c : Nat} (h : l.drop i = c :: r) : l[i]? = some c ∧ l.drop (i + 1) = r ∧ i < l.length := by
  refine ⟨?_, ?_, ?_⟩
  · have := congrArg (fun l => l[0]?) h; simpa using this
  · have := congrArg List.tail h; simpa using this
  · rcases Nat.lt_or_ge i l.length with q | q
    · exact q
    · rw [List.drop_of_length_le q] at h; cases h
theorem fn_parse {H : Option Value → Prop} (HK : (K1 B).In B.hb) (l : List Nat) (hl : l.length ≤ 100) : Fn B 1 (.ref 53) [ptx ([50, 53, 55, 32, 34] ++ l)] (ptx (nm l)) H := by
  refine Fn.introH (xs := [Str.ofString "resp"]) (get_of HK rfl rfl rfl rfl) ?_ rfl ?_
  · intro A h₀ hr hh hb
    have hz : ([50, 53, 55, 32, 34] ++ l).length ≤ sizeLine := by simp [sizeLine]; omega
    generalize hR : [50, 53, 55, 32, 34] ++ l = R
    rw [hR] at hz
    have hd5 : R.drop 5 = l := by rw [← hR]; rfl
    have hRl : R.length = l.length + 5 := by rw [← hR]; simp
    have s1 : slc R Option.none (some 3) = [50, 53, 55] := by rw [← hR]; rfl
    have s2 : slc R (some 3) (some 5) = [32, 34] := by rw [← hR]; rfl
    refine Ex.cons (Ex1.ite (c := false) (EvT.cmp (Ev.neS (i := [50, 53, 55]) (j := [50, 53, 55]) (s1 ▸ Ev.slS (a := Option.none) (b := some 3) (Ev.name rfl) trivial Ev.int trivial (by show (0:Int) ≤ 3; decide) hz) Ev.tx)) (fun h => nomatch h) fun _ => Ex.nil) ?_
    refine Ex.cons (Ex1.ite (c := false) (EvT.cmp (Ev.neS (i := [32, 34]) (j := [32, 34]) (s2 ▸ Ev.slS (a := some 3) (b := some 5) (Ev.name rfl) Ev.int Ev.int (by show (0:Int) ≤ 3; decide) (by show (0:Int) ≤ 5; decide) hz) Ev.tx)) (fun h => nomatch h) fun _ => Ex.nil) ?_
    refine Ex.cons (Ex1.assign (Ev.tx (l := [])) (.inl rfl)) ?_
    refine Ex.cons (Ex1.assign Ev.int (.inl rfl)) ?_
    refine Ex.cons (Ex1.assign (Ev.call (H := fun _ => True) (Ev.bltK HK rfl (by rfl) (by kernel_rfl) (by decide) (by decide)) (EvL.cons (Ev.name rfl) EvL.nil) (fn_lenS R (by omega)) (hr.deeper) trivial) (.inl rfl)) ?_
    refine Ex.cons (Ex1.while (Wh.wk (l := [("resp", ptx R), ("dirname", ptx []), ("i", pint 5), ("n", pint (R.length : Int))]) ⟨rfl, rfl, rfl, rfl, trivial⟩ (o := .next (al [("dirname", ptx (nm l))]) (fun _ => none)) ?_)) (Ex.leave (Ex1.ret (Ev.name rfl)))
    suffices main : ∀ (k i : Nat) (dn r : List Nat), R.length - i ≤ k → R.drop i = r → i ≤ R.length → dn.length ≤ i →
      Wh (mkC B A h₀ _ 53) (al [("resp", ptx R), ("dirname", ptx dn), ("i", pint (i : Int)), ("n", pint (R.length : Int))]) (fun _ => none) _ _ (.next (al [("dirname", ptx (dn ++ nm r))]) (fun _ => none)) from main R.length 5 [] l (by omega) hd5 (by omega) (by simp)
    intro k
    induction k with
    | zero =>
      intro i dn r hk hr' hi hdn
      have : i = R.length := by omega
      subst this
      rw [List.drop_length] at hr'
      subst hr'
      refine Wh.to (Wh.stop (EvT.cmp ?_)) (.next ⟨by simp only [nm, List.append_nil]; rfl, trivial⟩)
      have : cmpI .Lt (R.length : Int) (R.length : Int) = false := by simp [cmpI]
      rw [← this]
      repeat' (first | exact Ev.int | exact Ev.tx | exact Ev.none | exact Ev.bool | exact Ev.name rfl | refine Ev.add ?_ ?_ | refine Ev.sub ?_ ?_ | refine Ev.icmp ?_ ?_ | refine Ev.eqS ?_ ?_ | refine Ev.neS ?_ ?_)
    | succ k ih =>
      intro i dn r hk hr' hi hdn
      have hfit : (i : Int) < 2 ^ 63 := by have : R.length ≤ 105 := by omega
                                           omega
      cases r with
      | nil =>
        have : R.length ≤ i := by simpa using hr'
        refine Wh.to (Wh.stop (EvT.cmp ?_)) (.next ⟨by simp only [nm, List.append_nil]; rfl, trivial⟩)
        have : cmpI .Lt (i : Int) (R.length : Int) = false := by simp [cmpI]; omega
        rw [← this]
        repeat' (first | exact Ev.int | exact Ev.tx | exact Ev.none | exact Ev.bool | exact Ev.name rfl | refine Ev.add ?_ ?_ | refine Ev.sub ?_ ?_ | refine Ev.icmp ?_ ?_ | refine Ev.eqS ?_ ?_ | refine Ev.neS ?_ ?_)
      | cons c r =>
        obtain ⟨hc, hr2, hlt⟩ := getElem_of_drop hr'
        have hlt' : cmpI .Lt (i : Int) (R.length : Int) = true := by simp [cmpI]; omega
        have hi1 : ((i : Int) + 1) = ((i + 1 : Nat) : Int) := by omega
        by_cases h34 : c = 34
        · subst h34
          cases r with
          | nil =>
            have hlen : R.length ≤ i + 1 := by simpa using hr2
            refine Wh.to (Wh.brk (EvT.cmp ?_) (Ex.cons (Ex1.assign (Ev.ixS (Ev.name rfl) (Ev.name rfl) (by omega) hfit (by simpa using hc)) (.inl rfl)) (Ex.cons (Ex1.assign (Ev.add (Ev.name rfl) Ev.int) (.inl rfl))
              (Ex.leave (Ex1.ite (c := true) (EvT.cmp (Ev.eqS (i := [34]) (j := [34]) (Ev.name rfl) Ev.tx)) (fun _ => Ex.leave (Ex1.ite (c := true) (EvT.boolop (EvA.or_yes (EvT.cmp ?_))) (fun _ => Ex.leave Ex1.brk) (fun h => nomatch h))) (fun h => nomatch h)))))) (.next ⟨by simp [nm]; rfl, trivial⟩)
            · rw [← hlt']; repeat' (first | exact Ev.int | exact Ev.tx | exact Ev.none | exact Ev.bool | exact Ev.name rfl | refine Ev.add ?_ ?_ | refine Ev.sub ?_ ?_ | refine Ev.icmp ?_ ?_ | refine Ev.eqS ?_ ?_ | refine Ev.neS ?_ ?_)
            · have : cmpI .GtE ((i : Int) + 1) (R.length : Int) = true := by simp [cmpI]; omega
              rw [← this]; repeat' (first | exact Ev.int | exact Ev.tx | exact Ev.none | exact Ev.bool | exact Ev.name rfl | refine Ev.add ?_ ?_ | refine Ev.sub ?_ ?_ | refine Ev.icmp ?_ ?_ | refine Ev.eqS ?_ ?_ | refine Ev.neS ?_ ?_)
          | cons d r =>
            obtain ⟨hd, hr3, hlt2⟩ := getElem_of_drop hr2
            have hd' : R[((i : Int) + 1).toNat]? = some d := by rw [hi1]; simpa using hd
            have hge : cmpI .GtE ((i : Int) + 1) (R.length : Int) = false := by simp [cmpI]; omega
            by_cases hd34 : d = 34
            · subst hd34
              refine Wh.turn (EvT.cmp ?_) (Ex.to (Ex.cons (Ex1.assign (Ev.ixS (Ev.name rfl) (Ev.name rfl) (by omega) hfit (by simpa using hc)) (.inl rfl)) (Ex.cons (Ex1.assign (Ev.add (Ev.name rfl) Ev.int) (.inl rfl))
                (Ex.cons (Ex1.ite (c := true) (EvT.cmp (Ev.eqS (i := [34]) (j := [34]) (Ev.name rfl) Ev.tx)) (fun _ => Ex.cons (Ex1.ite (c := false) (EvT.boolop (EvA.or_no (EvT.cmp ?_) (EvA.or_no (EvT.cmp (Ev.neS (i := [34]) (j := [34]) (Ev.ixS (Ev.name rfl) (Ev.name rfl) (by omega) (by omega) hd') Ev.tx)) EvA.or_nil))) (fun h => nomatch h) (fun _ => Ex.nil)) (Ex.cons (Ex1.assign (Ev.add (Ev.name rfl) Ev.int) (.inl rfl)) Ex.nil)) (fun h => nomatch h))
                (Ex.cons (Ex1.assign (Ev.catS (Ev.name rfl) (Ev.name rfl) ?_) (.inl rfl)) Ex.nil))))
                (.next (l := [("resp", ptx R), ("dirname", ptx (dn ++ [34])), ("i", pint ((i + 2 : Nat) : Int)), ("n", pint (R.length : Int))]) ⟨rfl, rfl, ?_, rfl, trivial⟩)) ?_
              · rw [← hlt']; repeat' (first | exact Ev.int | exact Ev.tx | exact Ev.none | exact Ev.bool | exact Ev.name rfl | refine Ev.add ?_ ?_ | refine Ev.sub ?_ ?_ | refine Ev.icmp ?_ ?_ | refine Ev.eqS ?_ ?_ | refine Ev.neS ?_ ?_)
              · rw [← hge]; repeat' (first | exact Ev.int | exact Ev.tx | exact Ev.none | exact Ev.bool | exact Ev.name rfl | refine Ev.add ?_ ?_ | refine Ev.sub ?_ ?_ | refine Ev.icmp ?_ ?_ | refine Ev.eqS ?_ ?_ | refine Ev.neS ?_ ?_)
              · simp; omega
              · have : ((i : Int) + 1 + 1) = ((i + 2 : Nat) : Int) := by omega
                rw [← this]; rfl
              · have := ih (i + 2) (dn ++ [34]) r (by omega) (by rw [← hr3]) (by omega) (by simp; omega)
                simpa [nm] using this
            · have hne : ([d] != [34]) = true := by simpa using hd34
              refine Wh.to (Wh.brk (EvT.cmp ?_) (Ex.cons (Ex1.assign (Ev.ixS (Ev.name rfl) (Ev.name rfl) (by omega) hfit (by simpa using hc)) (.inl rfl)) (Ex.cons (Ex1.assign (Ev.add (Ev.name rfl) Ev.int) (.inl rfl))
                (Ex.leave (Ex1.ite (c := true) (EvT.cmp (Ev.eqS (i := [34]) (j := [34]) (Ev.name rfl) Ev.tx)) (fun _ => Ex.leave (Ex1.ite (c := true) (EvT.boolop (EvA.or_no (EvT.cmp ?_) (EvA.or_yes (EvT.cmp (hne ▸ Ev.neS (i := [d]) (j := [34]) (Ev.ixS (Ev.name rfl) (Ev.name rfl) (by omega) (by omega) hd') Ev.tx))))) (fun _ => Ex.leave Ex1.brk) (fun h => nomatch h))) (fun h => nomatch h)))))) (.next ⟨by simp [nm, hd34]; rfl, trivial⟩)
              · rw [← hlt']; repeat' (first | exact Ev.int | exact Ev.tx | exact Ev.none | exact Ev.bool | exact Ev.name rfl | refine Ev.add ?_ ?_ | refine Ev.sub ?_ ?_ | refine Ev.icmp ?_ ?_ | refine Ev.eqS ?_ ?_ | refine Ev.neS ?_ ?_)
              · rw [← hge]; repeat' (first | exact Ev.int | exact Ev.tx | exact Ev.none | exact Ev.bool | exact Ev.name rfl | refine Ev.add ?_ ?_ | refine Ev.sub ?_ ?_ | refine Ev.icmp ?_ ?_ | refine Ev.eqS ?_ ?_ | refine Ev.neS ?_ ?_)
        · have hne : ([c] == [34]) = false := by simpa using h34
          refine Wh.turn (EvT.cmp ?_) (Ex.to (Ex.cons (Ex1.assign (Ev.ixS (Ev.name rfl) (Ev.name rfl) (by omega) hfit (by simpa using hc)) (.inl rfl)) (Ex.cons (Ex1.assign (Ev.add (Ev.name rfl) Ev.int) (.inl rfl))
            (Ex.cons (Ex1.ite (c := false) (EvT.cmp (hne ▸ Ev.eqS (i := [c]) (j := [34]) (Ev.name rfl) Ev.tx)) (fun h => nomatch h) (fun _ => Ex.nil))
            (Ex.cons (Ex1.assign (Ev.catS (Ev.name rfl) (Ev.name rfl) ?_) (.inl rfl)) Ex.nil))))
            (.next (l := [("resp", ptx R), ("dirname", ptx (dn ++ [c])), ("i", pint ((i + 1 : Nat) : Int)), ("n", pint (R.length : Int))]) ⟨rfl, rfl, ?_, rfl, trivial⟩)) ?_
          · rw [← hlt']; repeat' (first | exact Ev.int | exact Ev.tx | exact Ev.none | exact Ev.bool | exact Ev.name rfl | refine Ev.add ?_ ?_ | refine Ev.sub ?_ ?_ | refine Ev.icmp ?_ ?_ | refine Ev.eqS ?_ ?_ | refine Ev.neS ?_ ?_)
          · simp; omega
          · rw [← hi1]; rfl
          · have := ih (i + 1) (dn ++ [c]) r (by omega) hr2 (by omega) (by simp; omega)
            have e : nm (c :: r) = c :: nm r := nm_ne r h34
            rw [e]
            simpa using this
  · exact bind1 fun a => rfl
end Mine
open PySem PySem.W PyProof.Rows
set_option Elab.async false
set_option maxRecDepth 100000
set_option maxHeartbeats 1000000
set_option linter.unusedVariables false
namespace Mine
variable {B : Bs}
noncomputable abbrev excMro : List Value := [.type "Exception", .type "BaseException", .type "object"]
theorem own1 (HK : (K1 B).In B.hb) : OwnClsQ (Str.ofString "error_reply") 44 excMro "Exception.__new__" B.mg B.hb where
  bound := glob1 HK rfl
  obj := ⟨_, 43, _, _, _, _, _, _, _, _, _, _, _, _, _, _, _, HK 44 _ rfl, ns_of_K HK rfl rfl, quiet_of (by kernel_rfl), .own (HK 31 _ rfl) (ns_of_K HK rfl rfl) (quiet_of (by kernel_rfl)) .base⟩
theorem fn_parseX (HK : (K1 B).In B.hb) (R : List Nat) (hR : slc R none (some 3) ≠ [50, 53, 55]) (hz : R.length ≤ sizeLine) : FnX B 1 (.ref 53) (mkS R) 44 := by
  refine FnX.intro (x := Str.ofString "resp") (y := Str.ofString "error_reply") (get_of HK rfl rfl rfl rfl) ?_ (own1 HK).own PySem.F.excBase_Exception ?_
  · intro A h₀ hr hh hb
    have e : (slc R none (some 3) != [50, 53, 55]) = true := by simpa using hR
    exact EvT.cmp (e ▸ Ev.neS (i := slc R none (some 3)) (j := [50, 53, 55]) (Ev.slS (a := Option.none) (b := some 3) (Ev.name rfl) trivial Ev.int trivial (by show (0:Int) ≤ 3; decide) hz) Ev.tx)
  · intro v; rfl
theorem fn_refused (HK : (K1 B).In B.hb) (R : List Nat) (hR : slc R none (some 3) ≠ [50, 53, 55]) (hz : R.length ≤ 1000) : Fn B 2 (.ref 93) [ptx R] (pbool true) := by
  refine Fn.intro (xs := [Str.ofString "reply"]) (get_of HK rfl rfl rfl rfl) ?_ rfl ?_
  · intro A h₀ hr hh hb
    obtain ⟨l, hl⟩ := hr.frames
    refine Ex.leave (Ex1.tryX (l := l) (by show A.frames.map _ = _; rw [hl]; rfl) rfl (Ev.glob rfl (glob1 HK rfl)) (Ev.name rfl) (fn_parseX HK R hR (Nat.le_trans hz (by decide))) hr.deeper hh (own1 HK) (by kernel_rfl) (fun ea => ?_) (fun F h v x F' h' => by rw [bool_of x]; exact of_bool) rfl rfl)
    have : (pbool (B := B) true) = pbool (R == R) := by rw [beq_self_eq_true]
    rw [this]
    refine Ev.eqS (i := R) (j := R) (Ev.call (H := fun _ => True) (Ev.bltK HK rfl (by rfl) (by kernel_rfl) (by decide) (by decide)) (EvL.cons (Ev.name rfl) EvL.nil) (fn_strE HK (by kernel_rfl) (by kernel_rfl)) (let r : Room 0 (A.deeper _) := (hr.deeper).le (by omega); ⟨r.depth, r.units, r.guards, r.frames⟩) trivial) (Ev.name rfl)
  · exact bind1 fun a => rfl
end Mine
open PySem PySem.W PyProof.Rows
set_option Elab.async false
set_option maxRecDepth 100000
set_option maxHeartbeats 1000000
set_option linter.unusedVariables false
set_option linter.unusedSimpArgs false
namespace Mine
variable {B : Bs}
/-- how far off the next match is, or the end -/
noncomputable def fe : List Nat → Nat
  | [] => 0
  | c :: r => if c = 34 ∧ r.head? = some 34 then 0 else if c = 35 ∧ r.head? ≠ some 35 then 0 else fe r + 1
noncomputable def fnd (l : List Nat) (st : Nat) : Option (Nat × Nat) :=
  let f := st + fe (l.drop st)
  if f = l.length then none else some (f, if l[f]? = some 35 then f else f + 2)
theorem fe_le : ∀ l, fe l ≤ l.length
  | [] => Nat.le_refl _
  | c :: r => by
    have := fe_le r
    unfold fe
    split
    · omega
    · split
      · omega
      · simp; omega
noncomputable def q1 (l c : Nat) : Option Str := if l = 50 then some (Str.ofString "_law_prog.<locals>.search") else if l = 62 then some (Str.ofString "_law_prog.<locals>.<lambda>") else some (Str.ofString "_law_prog.<locals>.search.<locals>.<lambda>")
structure W1 (B : Bs) : Prop where
  K : (K1 B).In B.hb
  P0 : B.P0 = 74
  qual : B.qual = q1
noncomputable def phit (a b : Int) : Pd B := pattr "span" (pcall 1 [] (pd (.tup [.int a, .int b])))
noncomputable def pres (o : Option (Nat × Nat)) : Pd B := match o with
  | none => pnone
  | some (a, b) => phit a b
noncomputable def stmtsOf : FuncBody → List Stmt
  | .stmts b => b
  | _ => []
noncomputable def bodyOf (K : Frag) (a : Addr) : List Stmt := match K.lookup a with
  | some ⟨_, _, .func fd, _⟩ => stmtsOf fd.body
  | _ => []
noncomputable def innerBody : List Stmt → List Stmt
  | s :: _ => (partsS s).2.2.1
  | [] => []
noncomputable def innerScope : List Stmt → Scope
  | s :: _ => (partsS s).2.2.2.1
  | [] => { kind := .module, names := [] , isGenerator := false, isCoroutine := false, more := [] }
theorem drop_at {l r : List Nat} {f c : Nat} (h : l.drop f = c :: r) : l[f]? = some c ∧ l.drop (f + 1) = r ∧ f < l.length := getElem_of_drop h
noncomputable abbrev sC (B : Bs) (A : Around) (h₀ : Heap) (ps : Arguments) (bd : FuncBody) (clos : List (Str × Addr)) (dV pm doc ctv : Value) (c' a : Addr) : Cx B :=
  mkC B A h₀ (mkFd (Str.ofString "search") (Str.ofString "_law_prog.<locals>.search") ps bd (innerScope (bodyOf (K1 B) 79)) clos dV pm doc ctv c') a
theorem search_body (W : W1 B) {A : Around} {h₀ : Heap} {ps : Arguments} {bd : FuncBody} {clos : List (Str × Addr)} {dV pm doc ctv : Value} {c' a : Addr} (hr : Room 1 A) (hh : A.handled = none) (hb : Base B h₀)
    (hC : Cod (sC B A h₀ ps bd clos dV pm doc ctv c' a) 0) (l : List Nat) (st : Nat) (hl : l.length ≤ 100) (hst : st ≤ l.length) :
    Ex (sC B A h₀ ps bd clos dV pm doc ctv c' a) (updL (fun _ => none) [Str.ofString "chars", Str.ofString "start"] [ptx l, pint (st : Int)]) (fun _ => none) (innerBody (bodyOf (K1 B) 79)) (.ret (pres (fnd l st))) := by
  have hz : l.length ≤ sizeLine := Nat.le_trans hl (by decide)
  refine Ex.cons (Ex1.assign (Ev.name rfl) (.inr ⟨rfl, rfl⟩)) ?_
  refine Ex.cons (Ex1.while (Wh.wk (l := [("chars", ptx l), ("first", pint (st : Int))]) ⟨rfl, rfl, trivial⟩ (o := .next (al [("chars", ptx l), ("first", pint ((st + fe (l.drop st) : Nat) : Int))]) (fun _ => none)) ?_)) ?_
  · suffices main : ∀ (k f : Nat), l.length - f ≤ k → f ≤ l.length →
      Wh (sC B A h₀ ps bd clos dV pm doc ctv c' a) (al [("chars", ptx l), ("first", pint (f : Int))]) (fun _ => none) _ _ (.next (al [("chars", ptx l), ("first", pint ((f + fe (l.drop f) : Nat) : Int))]) (fun _ => none)) from main l.length st (by omega) hst
    intro k
    induction k with
    | zero =>
      intro f hk hf
      have e : l.drop f = [] := List.drop_of_length_le (by omega)
      rw [e]
      exact Wh.stop (EvT.boolop (EvA.and_no (EvT.ic (Ev.name rfl) (Ev.len W.K (Ev.name rfl) (by omega) (hr.deeper.le (by omega)) rfl (by rfl)) (cmp_nlt (by omega)))))
    | succ k ih =>
      intro f hk hf
      cases e : l.drop f with
      | nil =>
        have : l.length ≤ f := by simpa using e
        exact Wh.stop (EvT.boolop (EvA.and_no (EvT.ic (Ev.name rfl) (Ev.len W.K (Ev.name rfl) (by omega) (hr.deeper.le (by omega)) rfl (by rfl)) (cmp_nlt (by omega)))))
      | cons c r =>
        obtain ⟨hc, hr2, hlt⟩ := drop_at e
        have hlen := @Ev.len B (sC B A h₀ ps bd clos dV pm doc ctv c' a) (al [("chars", ptx l), ("first", pint (f : Int))]) (fun _ => none) (K1 B) W.K
        have n0 : nn (some (f : Int)) := by show (0 : Int) ≤ f; omega
        have n1 : nn (some ((f : Int) + 1)) := by show (0 : Int) ≤ f + 1; omega
        have n2 : nn (some ((f : Int) + 2)) := by show (0 : Int) ≤ f + 2; omega
        have hf63 : (f : Int) < 2 ^ 63 := by omega
        by_cases hA : c = 34 ∧ r.head? = some 34
        · have hfe : fe (c :: r) = 0 := by simp [fe, hA]
          rw [hfe, Nat.add_zero]
          refine Wh.stop (EvT.boolop (EvA.and_yes (EvT.ic (Ev.name rfl) (hlen (Ev.name rfl) (by omega) (hr.deeper.le (by omega)) rfl (by rfl)) (cmp_lt hlt)) (EvA.and_no (EvT.nec (i := slc l (some (f : Int)) (some ((f : Int) + 2))) (j := [34, 34]) (Ev.slS (a := some (f : Int)) (b := some ((f : Int) + 2)) (Ev.name rfl) (Ev.name rfl) (Ev.add (Ev.name rfl) Ev.int) n0 n2 hz) Ev.tx ?_))))
          rw [slc_two e]
          obtain ⟨rfl, h2⟩ := hA
          cases r with
          | nil => simp at h2
          | cons d r => simp at h2; subst h2; rfl
        · have htest : ((c :: r).take 2 != [34, 34]) = true := by
            cases r with
            | nil => simp
            | cons d r =>
              simp only [List.take, bne_iff_ne, ne_eq, List.cons.injEq, and_true]
              intro h; exact hA ⟨h.1, by simp [h.2]⟩
          by_cases hB : c = 35 ∧ r.head? ≠ some 35
          · have hfe : fe (c :: r) = 0 := by simp [fe, hA, hB]
            rw [hfe, Nat.add_zero]
            refine Wh.brk (EvT.boolop (EvA.and_yes (EvT.ic (Ev.name rfl) (hlen (Ev.name rfl) (by omega) (hr.deeper.le (by omega)) rfl (by rfl)) (cmp_lt hlt)) (EvA.and_yes (EvT.nec (i := slc l (some (f : Int)) (some ((f : Int) + 2))) (j := [34, 34]) (Ev.slS (a := some (f : Int)) (b := some ((f : Int) + 2)) (Ev.name rfl) (Ev.name rfl) (Ev.add (Ev.name rfl) Ev.int) n0 n2 hz) Ev.tx (by rw [slc_two e]; exact htest)) EvA.and_nil))) ?_
            refine Ex.leave (Ex1.ite (c := true) (EvT.boolop (EvA.and_yes (EvT.eqc (i := [c]) (j := [35]) (Ev.ixS (Ev.name rfl) (Ev.name rfl) (by omega) hf63 (by simpa using hc)) Ev.tx (by rw [hB.1]; rfl)) (EvA.and_yes (EvT.nec (i := slc l (some ((f : Int) + 1)) (some ((f : Int) + 2))) (j := [35]) (Ev.slS (a := some ((f : Int) + 1)) (b := some ((f : Int) + 2)) (Ev.name rfl) (Ev.add (Ev.name rfl) Ev.int) (Ev.add (Ev.name rfl) Ev.int) n1 n2 hz) Ev.tx ?_) EvA.and_nil))) (fun _ => Ex.leave Ex1.brk) (fun h => nomatch h))
            rw [slc_snd e]
            cases r with
            | nil => rfl
            | cons d r => have := hB.2; simp at this ⊢; exact this
          · have hfe : fe (c :: r) = fe r + 1 := by simp [fe, hA, hB]
            rw [hfe]
            refine Wh.turn (ρ' := al [("chars", ptx l), ("first", pint ((f + 1 : Nat) : Int))]) (μ' := fun _ => none) (EvT.boolop (EvA.and_yes (EvT.ic (Ev.name rfl) (hlen (Ev.name rfl) (by omega) (hr.deeper.le (by omega)) rfl (by rfl)) (cmp_lt hlt)) (EvA.and_yes (EvT.nec (i := slc l (some (f : Int)) (some ((f : Int) + 2))) (j := [34, 34]) (Ev.slS (a := some (f : Int)) (b := some ((f : Int) + 2)) (Ev.name rfl) (Ev.name rfl) (Ev.add (Ev.name rfl) Ev.int) n0 n2 hz) Ev.tx (by rw [slc_two e]; exact htest)) EvA.and_nil))) ?_ ?_
            · refine Ex.to (Ex.cons (Ex1.ite (c := false) (EvT.cast (EvT.and2 (a := c == 35) (b := (r.take 1 != [35])) (EvT.eqc (i := [c]) (j := [35]) (Ev.ixS (Ev.name rfl) (Ev.name rfl) (by omega) hf63 (by simpa using hc)) Ev.tx (by simp)) (fun _ => EvT.nec (i := slc l (some ((f : Int) + 1)) (some ((f : Int) + 2))) (j := [35]) (Ev.slS (a := some ((f : Int) + 1)) (b := some ((f : Int) + 2)) (Ev.name rfl) (Ev.add (Ev.name rfl) Ev.int) (Ev.add (Ev.name rfl) Ev.int) n1 n2 hz) Ev.tx (by rw [slc_snd e]; rfl))) ?_) (fun h => nomatch h) (fun _ => Ex.nil))
                (Ex.cons (Ex1.augI (i := (f : Int)) (j := 1) rfl Ev.int (.inr ⟨rfl, rfl⟩)) Ex.nil)) (.next (l := [("chars", ptx l), ("first", pint ((f + 1 : Nat) : Int))]) ⟨rfl, by rfl, trivial⟩)
              · by_cases h35 : c = 35
                · subst h35
                  have h2 : r.head? = some 35 := by
                    rcases Decidable.em (r.head? = some 35) with q | q
                    · exact q
                    · exact absurd ⟨rfl, q⟩ hB
                  cases r with
                  | nil => simp at h2
                  | cons d r => simp at h2; subst h2; rfl
                · have : (c == 35) = false := by simpa using h35
                  rw [this]; rfl
            · have := ih (f + 1) (by omega) (by omega)
              rw [hr2] at this
              rw [show f + (fe r + 1) = f + 1 + fe r from by omega]
              exact this
  · generalize he : st + fe (l.drop st) = e
    have hel : e ≤ l.length := by have := fe_le (l.drop st); simp at this; omega
    have hf : fnd l st = if e = l.length then none else some (e, if l[e]? = some 35 then e else e + 2) := by unfold fnd; simp only [he]
    rw [hf]
    have hlen := @Ev.len B (sC B A h₀ ps bd clos dV pm doc ctv c' a) (al [("chars", ptx l), ("first", pint (e : Int))]) (fun _ => none) (K1 B) W.K
    by_cases hE : e = l.length
    · rw [if_pos hE]
      exact Ex.leave (Ex1.ite (c := true) (EvT.ic (Ev.name rfl) (hlen (Ev.name rfl) (by omega) (hr.deeper.le (by omega)) rfl (by rfl)) (by simp [cmpI, hE])) (fun _ => Ex.leave (Ex1.ret Ev.none)) (fun h => nomatch h))
    · rw [if_neg hE]
      have hlt : e < l.length := by omega
      refine Ex.cons (Ex1.ite (c := false) (EvT.ic (Ev.name rfl) (hlen (Ev.name rfl) (by omega) (hr.deeper.le (by omega)) rfl (by rfl)) (by simp [cmpI]; omega)) (fun h => nomatch h) (fun _ => Ex.nil)) ?_
      have hc : l[e]? = some l[e] := by simp [hlt]
      generalize hb2 : (if l[e]? = some 35 then e else e + 2) = b2
      refine Ex.cons (Ex1.assign (P := pint (b2 : Int)) (Ev.ite (c := (l[e] == 35)) (EvT.eqc (i := [l[e]]) (j := [35]) (Ev.ixS (Ev.name rfl) (Ev.name rfl) (by omega) (by omega) (by simpa using hc)) Ev.tx (by simp)) (fun h => ?_) (fun h => ?_)) (.inr ⟨rfl, rfl⟩)) ?_
      · have h' : l[e] = 35 := by simpa using h
        rw [hc, h', if_pos rfl] at hb2
        subst hb2; exact Ev.name rfl
      · have h' : ¬ l[e] = 35 := by simpa using h
        rw [hc, if_neg (by simpa using h')] at hb2
        subst hb2; exact Ev.castI (Ev.add (Ev.name rfl) Ev.int) (by omega)
      refine Ex.attrRet (EvF.lam hC (by rw [W.qual]; kernel_rfl)) (.inl rfl) (fun a' => Ev.lam hC (by rw [W.qual]; kernel_rfl)) (fun F h w a' f hp => ?_) fn_noSpan
      refine Frm.made (C := sC B A h₀ ps bd clos dV pm doc ctv c' a) (ρ₀ := al [("first", pint (e : Int)), ("behind", pint (b2 : Int))]) (xs := []) (Ps' := []) f hp ?_ rfl ?_ rfl rfl rfl ?_ ?_ rfl ?_ ?_
      · rw [W.qual]; kernel_rfl
      · decide
      · intro x P hx
        unfold al at hx
        by_cases h1 : x = Str.ofString "first"
        · rw [if_pos h1] at hx; cases hx; subst h1; exact ⟨rfl, rfl, lasts_int⟩
        · rw [if_neg h1] at hx
          unfold al at hx
          by_cases h2 : x = Str.ofString "behind"
          · rw [if_pos h2] at hx; cases hx; subst h2; exact ⟨rfl, rfl, lasts_int⟩
          · rw [if_neg h2] at hx; simp [al] at hx
      · intro x hx; cases hx
      · intro F s A dV pm doc ctv c' vs hlt hd hv
        have hd' : dV = .none := hd
        subst hd'
        match vs, hv with
        | [], _ => exact ⟨[], trivial, fun Q hQ => wpAny_pure hQ⟩
      · intro A h₀ a dV pm doc ctv c' hr hh hb _
        exact Ev.tuple (ds := [.int e, .int b2]) (EvL.cons (Ev.name rfl) (EvL.cons (Ev.name rfl) EvL.nil))
end Mine
open PySem PySem.W PyProof.Rows
set_option Elab.async false
set_option maxRecDepth 100000
set_option maxHeartbeats 1000000
set_option linter.unusedVariables false
set_option linter.unusedSimpArgs false
namespace Mine
variable {B : Bs}
noncomputable abbrev IxS := { x : List Nat × Nat // x.1.length ≤ 100 ∧ x.2 ≤ x.1.length }
noncomputable def psearch : Pd B := pall fun x : IxS => pand (pcall 1 [ptx x.1.1] (pres (fnd x.1.1 0))) (pcall 1 [ptx x.1.1, pint (x.1.2 : Int)] (pres (fnd x.1.1 x.1.2)))
noncomputable abbrev pprog : Pd B := pattr (Str.ofString "search") psearch
theorem fn_prog (W : W1 B) : Fn B 1 (.ref 79) [] pprog := by
  refine Fn.intro (xs := []) (get_of W.K rfl rfl rfl rfl) ?_ rfl ?_
  · intro A h₀ hr hh hb
    have hC : ∀ fd a, fd.code = .ref 78 → Cod (mkC B A h₀ fd a) 1 := fun fd a e => ⟨78, 74, e, codeHd_of_K (fun a o e => hb.keep _ _ (W.K a o e)) (by kernel_rfl), W.P0 ▸ hb.tab, .inl W.P0.symm⟩
    refine Ex.cons (Ex1.def0 (hC _ _ rfl) (.inl rfl) _ rfl (by rw [W.qual]; kernel_rfl)) ?_
    refine Ex.attrRet (Q := psearch) (EvF.lam (hC _ _ rfl) (by rw [W.qual]; kernel_rfl)) (.inl rfl) (fun a => Ev.name rfl) ?_ fn_noSearch
    intro F h w a f hp ⟨⟨l, st⟩, hl, hst⟩
    dsimp only at hl hst
    constructor
    · refine Frm.made (ρ₀ := fun _ => none) (xs := [Str.ofString "chars", Str.ofString "start"]) (Ps' := [ptx l, pint ((0 : Nat) : Int)]) f hp ?_ rfl ?_ rfl rfl rfl ?_ ?_ rfl ?_ ?_
      · rw [W.qual]; kernel_rfl
      · decide
      · intro x P hx; cases hx
      · decide
      · intro F s A dV pm doc ctv c' vs hlt hd hv
        obtain ⟨v, rfl, hv'⟩ := one_arg hv
        obtain ⟨t, tk, n, rfl, _, g⟩ := hd
        refine ⟨[v, .int 0 tk], ⟨hv', of_int, trivial⟩, fun Q hQ => ?_⟩
        refine wpAny_bind (m := seqItems? (.ref t)) ?_
        exact wpAny_bind (wpAny_load g (wpAny_pure (wpAny_pure hQ)))
      · intro A h₀ a dV pm doc ctv c' hr hh hb hC
        exact search_body W hr hh hb (hC 0 rfl) l 0 hl (by omega)
    · refine Frm.made (ρ₀ := fun _ => none) (xs := [Str.ofString "chars", Str.ofString "start"]) (Ps' := [ptx l, pint (st : Int)]) f hp ?_ rfl ?_ rfl rfl rfl ?_ ?_ rfl ?_ ?_
      · rw [W.qual]; kernel_rfl
      · decide
      · intro x P hx; cases hx
      · decide
      · intro F s A dV pm doc ctv c' vs hlt hd hv
        obtain ⟨v, v2, rfl, hv', hv2⟩ := two_args hv
        obtain ⟨t, tk, n, rfl, _, g⟩ := hd
        refine ⟨[v, v2], hv, fun Q hQ => ?_⟩
        refine wpAny_bind (m := seqItems? (.ref t)) ?_
        exact wpAny_bind (wpAny_load g (wpAny_pure (wpAny_pure hQ)))
      · intro A h₀ a dV pm doc ctv c' hr hh hb hC
        exact search_body W hr hh hb (hC 0 rfl) l st hl hst
  · exact bind0 rfl
end Mine
open PySem PySem.W PyProof.Rows
set_option Elab.async false
set_option maxRecDepth 100000
set_option maxHeartbeats 1000000
set_option linter.unusedVariables false
set_option linter.unusedSimpArgs false
namespace Mine
variable {B : Bs}
theorem fe_at : ∀ (r : List Nat), fe r < r.length → (r[fe r]? = some 35) ∨ (r[fe r]? = some 34 ∧ fe r + 2 ≤ r.length)
  | [], h => by simp [fe] at h
  | c :: r, h => by
    unfold fe at h ⊢
    split
    · rename_i hA
      rw [if_pos hA] at h
      right
      obtain ⟨rfl, h2⟩ := hA
      cases r with
      | nil => simp at h2
      | cons d r => simp
    · rename_i hA
      rw [if_neg hA] at h
      split
      · rename_i hB
        left; simp [hB.1]
      · rename_i hB
        rw [if_neg hB] at h
        have := fe_at r (by simpa using h)
        simpa [Nat.add_right_comm] using this
theorem fnd_spec {l : List Nat} {st i j : Nat} (h : fnd l st = some (i, j)) (hst : st ≤ l.length) : st ≤ i ∧ i < l.length ∧ ((j = i ∧ l[i]? = some 35) ∨ (j = i + 2 ∧ i + 2 ≤ l.length ∧ l[i]? = some 34)) := by
  unfold fnd at h
  simp only at h
  split at h
  · cases h
  · rename_i hne
    simp only [Option.some.injEq, Prod.mk.injEq] at h
    obtain ⟨hi, hj⟩ := h
    have hle := fe_le (l.drop st)
    rw [List.length_drop] at hle
    have hlt : fe (l.drop st) < (l.drop st).length := by rw [List.length_drop]; omega
    have hat := fe_at (l.drop st) hlt
    rw [List.getElem?_drop, hi, List.length_drop] at hat
    refine ⟨hi ▸ Nat.le_add_right _ _, hi ▸ Nat.add_lt_of_lt_sub' (by rw [List.length_drop] at hlt; exact hlt), ?_⟩
    rcases hat with q | q
    · left; rw [hi, if_pos q] at hj; exact ⟨hj.symm, q⟩
    · right
      rw [hi, if_neg (by rw [q.1]; simp)] at hj
      exact ⟨hj.symm, by omega, q.1⟩
theorem cmp_eqN {a b : Nat} : cmpI .Eq (a : Int) (b : Int) = decide (a = b) := by
  by_cases h : a = b
  · simp [cmpI, h]
  · have : ¬ (a : Int) = b := by omega
    simp [cmpI, h, this]
noncomputable def srl (l : List Nat) (col : Nat) : Nat → Nat → Option (Nat × Nat) → Option (Nat × Nat)
  | 0, _, found => found
  | n + 1, st, found => match fnd l st with
    | none => found
    | some (i, j) => if i < col ∧ j ≤ col then srl l col n (if i = j then j + 1 else j) (some (i, j)) else found
noncomputable def sr (l : List Nat) (col : Nat) : Option (Nat × Nat) := srl l col (l.length + 1) 0 none
theorem truthy_none {F : Addr → Prop} {A : Around} {s : Shared} {v : Value} (h : (pnone (B := B)).p F s.heap v) : wpAny (md B) A (truthy v) (fun b s' => Stp B s s' ∧ b = false) noE s := by
  rw [none_of h]; exact wpAny_pure ⟨.refl, rfl⟩
theorem fn_sr (W : W1 B) (l : List Nat) (col : Nat) (hl : l.length ≤ 100) : Fn B 2 (.ref 21) [pprog, ptx l, pint (col : Int)] (pres (sr l col)) := by
  refine Fn.intro (xs := [Str.ofString "prog", Str.ofString "chars", Str.ofString "col"]) (get_of W.K rfl rfl rfl rfl) ?_ rfl ?_
  · intro A h₀ hr hh hb
    have s1 : ∀ F h v, (psearch (B := B)).p F h v → (pcall (B := B) 1 [ptx l] (pres (fnd l 0))).p F h v := fun F h v x => (x ⟨(l, 0), hl, Nat.zero_le _⟩).1
    have s2 : ∀ st, st ≤ l.length → ∀ F h v, (psearch (B := B)).p F h v → (pcall (B := B) 1 [ptx l, pint (st : Int)] (pres (fnd l st))).p F h v := fun st hst F h v x => (x ⟨(l, st), hl, hst⟩).2
    refine Ex.cons (Ex1.assign (Ev.callA (Ev.name rfl) s1 (EvL.cons (Ev.name rfl) EvL.nil) hr.deeper hh fn_noSearch) (.inl rfl)) ?_
    unfold sr
    cases h0 : fnd l 0 with
    | none =>
      have e : srl l col (l.length + 1) 0 none = none := by unfold srl; rw [h0]
      rw [e]
      exact Ex.leave (Ex1.ite (c := true) (EvT.not (b := false) (EvT.val (P := pnone) (Ev.name rfl) fun F s v f h => truthy_none h)) (fun _ => Ex.leave (Ex1.ret Ev.none)) (fun h => nomatch h))
    | some ij =>
      obtain ⟨i, j⟩ := ij
      refine Ex.cons (Ex1.ite (c := false) (EvT.not (b := true) (EvT.val (P := phit i j) (Ev.name rfl) fun F s v f h => truthy_attr h)) (fun h => nomatch h) (fun _ => Ex.nil)) ?_
      refine Ex.cons (Ex1.assign Ev.none (.inl rfl)) ?_
      refine Ex.cons (Ex1.assignT (Ev.callA (Q := pcall 1 [] (pd (.tup [.int i, .int j]))) (Ev.name rfl) (fun F h v x => x) EvL.nil hr.deeper hh fn_noSpan) (Asg.tuple hh (AsgL.cons (Asg.name (.inl rfl)) (AsgL.cons (Asg.name (.inl rfl)) AsgL.nil)))) ?_
      refine Ex.cons (Ex1.while (Wh.wk (l := [("prog", pprog), ("chars", ptx l), ("col", pint (col : Int)), ("m", phit i j), ("found", pres none), ("i", pint (i : Int)), ("j", pint (j : Int))]) ⟨rfl, rfl, rfl, rfl, rfl, rfl, rfl, trivial⟩
        (o := .next (al [("found", pres (srl l col (l.length + 1) 0 none))]) (fun _ => none)) ?_)) (Ex.leave (Ex1.ret (Ev.name rfl)))
      suffices main : ∀ (n st : Nat) (found : Option (Nat × Nat)) (i j : Nat), fnd l st = some (i, j) → st ≤ l.length → l.length - st < n →
        Wh (mkC B A h₀ _ 21) (al [("prog", pprog), ("chars", ptx l), ("col", pint (col : Int)), ("m", phit i j), ("found", pres found), ("i", pint (i : Int)), ("j", pint (j : Int))]) (fun _ => none) _ _ (.next (al [("found", pres (srl l col n st found))]) (fun _ => none)) from
        main (l.length + 1) 0 none i j h0 (Nat.zero_le _) (by omega)
      intro n
      induction n with
      | zero => intro st found i j h hst hn; omega
      | succ n ih =>
        intro st found i j h hst hn
        obtain ⟨g1, g2, g3⟩ := fnd_spec h hst
        have e : srl l col (n + 1) st found = if i < col ∧ j ≤ col then srl l col n (if i = j then j + 1 else j) (some (i, j)) else found := by
          conv => lhs; unfold srl
          rw [h]
        rw [e]
        have le : ∀ {a b : Nat}, a ≤ b → cmpI .LtE (a : Int) (b : Int) = true := fun h => by simp [cmpI]; omega
        have nle : ∀ {a b : Nat}, ¬ a ≤ b → cmpI .LtE (a : Int) (b : Int) = false := fun h => by simp [cmpI]; omega
        by_cases hc : i < col ∧ j ≤ col
        · rw [if_pos hc]
          generalize hs' : (if i = j then j + 1 else j) = st'
          have hst' : st' ≤ l.length := by rw [← hs']; split <;> omega
          have hn' : l.length - st' < n := by have : st < st' := by { rw [← hs']; split <;> omega }
                                              omega
          cases h2 : fnd l st' with
          | none =>
            have e2 : srl l col n st' (some (i, j)) = some (i, j) := by cases n <;> simp [srl, h2]
            rw [e2]
            refine Wh.to (Wh.brk (EvT.boolop (EvA.and_yes (EvT.ic (Ev.name rfl) (Ev.name rfl) (cmp_lt hc.1)) (EvA.and_yes (EvT.ic (Ev.name rfl) (Ev.name rfl) (le hc.2)) EvA.and_nil))) ?_) (.next (ρ := upd (al [("prog", pprog), ("chars", ptx l), ("col", pint (col : Int)), ("found", phit i j), ("j", pint (st' : Int))]) (Str.ofString "m") (pres none)) ⟨rfl, trivial⟩)
            refine Ex.cons (Ex1.assign (Ev.name rfl) (.inl rfl)) ?_
            refine Ex.cons (Ex1.ite (c := decide (i = j)) (o := .next (al [("prog", pprog), ("chars", ptx l), ("col", pint (col : Int)), ("found", phit i j), ("j", pint (st' : Int))]) (fun _ => none)) (EvT.ic (Ev.name rfl) (Ev.name rfl) cmp_eqN)
              (fun h => Ex.to (Ex.cons (Ex1.assign (Ev.castI (Ev.add (Ev.name rfl) Ev.int) (by rw [← hs', if_pos (of_decide_eq_true h)]; omega)) (.inl rfl)) Ex.nil) (.next ⟨rfl, rfl, rfl, rfl, rfl, trivial⟩))
              (fun h => Ex.to Ex.nil (.next ⟨rfl, rfl, rfl, rfl, by rw [← hs', if_neg (of_decide_eq_false h)]; rfl, trivial⟩))) ?_
            refine Ex.cons (Ex1.assign (Ev.callA (Ev.name rfl) (s2 st' hst') (EvL.cons (Ev.name rfl) (EvL.cons (Ev.name rfl) EvL.nil)) hr.deeper hh fn_noSearch) (.inl rfl)) ?_
            rw [h2]
            exact Ex.leave (Ex1.ite (c := true) (EvT.not (b := false) (EvT.val (P := pnone) (Ev.name rfl) fun F s v f h => truthy_none h)) (fun _ => Ex.leave Ex1.brk) (fun h => nomatch h))
          | some ij =>
            obtain ⟨i', j'⟩ := ij
            refine Wh.turn (EvT.boolop (EvA.and_yes (EvT.ic (Ev.name rfl) (Ev.name rfl) (cmp_lt hc.1)) (EvA.and_yes (EvT.ic (Ev.name rfl) (Ev.name rfl) (le hc.2)) EvA.and_nil))) ?_ (ih st' (some (i, j)) i' j' h2 hst' hn')
            refine Ex.cons (Ex1.assign (Ev.name rfl) (.inl rfl)) ?_
            refine Ex.cons (Ex1.ite (c := decide (i = j)) (o := .next (al [("prog", pprog), ("chars", ptx l), ("col", pint (col : Int)), ("found", phit i j), ("j", pint (st' : Int))]) (fun _ => none)) (EvT.ic (Ev.name rfl) (Ev.name rfl) cmp_eqN)
              (fun h => Ex.to (Ex.cons (Ex1.assign (Ev.castI (Ev.add (Ev.name rfl) Ev.int) (by rw [← hs', if_pos (of_decide_eq_true h)]; omega)) (.inl rfl)) Ex.nil) (.next ⟨rfl, rfl, rfl, rfl, rfl, trivial⟩))
              (fun h => Ex.to Ex.nil (.next ⟨rfl, rfl, rfl, rfl, by rw [← hs', if_neg (of_decide_eq_false h)]; rfl, trivial⟩))) ?_
            refine Ex.cons (Ex1.assign (Ev.callA (Ev.name rfl) (s2 st' hst') (EvL.cons (Ev.name rfl) (EvL.cons (Ev.name rfl) EvL.nil)) hr.deeper hh fn_noSearch) (.inl rfl)) ?_
            rw [h2]
            refine Ex.cons (Ex1.ite (c := false) (EvT.not (b := true) (EvT.val (P := phit i' j') (Ev.name rfl) fun F s v f h => truthy_attr h)) (fun h => nomatch h) (fun _ => Ex.nil)) ?_
            exact Ex.to (Ex.cons (Ex1.assignT (Ev.callA (Q := pcall 1 [] (pd (.tup [.int i', .int j']))) (Ev.name rfl) (fun F h v x => x) EvL.nil hr.deeper hh fn_noSpan) (Asg.tuple hh (AsgL.cons (Asg.name (.inl rfl)) (AsgL.cons (Asg.name (.inl rfl)) AsgL.nil)))) Ex.nil) (.next ⟨rfl, rfl, rfl, rfl, rfl, rfl, rfl, trivial⟩)
        · rw [if_neg hc]
          by_cases hi : i < col
          · exact Wh.to (Wh.stop (EvT.boolop (EvA.and_yes (EvT.ic (Ev.name rfl) (Ev.name rfl) (cmp_lt hi)) (EvA.and_no (EvT.ic (Ev.name rfl) (Ev.name rfl) (nle fun q => hc ⟨hi, q⟩)))))) (.next ⟨rfl, trivial⟩)
          · exact Wh.to (Wh.stop (EvT.boolop (EvA.and_no (EvT.ic (Ev.name rfl) (Ev.name rfl) (cmp_nlt hi))))) (.next ⟨rfl, trivial⟩)
  · exact bind3 fun a b c => rfl
end Mine
open PySem PySem.W PyProof.Rows
set_option Elab.async false
set_option maxRecDepth 100000
set_option maxHeartbeats 1000000
set_option linter.unusedVariables false
set_option linter.unusedSimpArgs false
namespace Mine
variable {B : Bs}
noncomputable def sgn (x : Int) : Nat := if x.fmod 6 = 0 ∨ x.fmod 6 = 3 ∨ x.fmod 6 = 4 then 34 else if x.fmod 6 = 1 then 35 else (97 + (x.fdiv 6).fmod 25000).toNat
theorem fn_sign (W : W1 B) (x : Int) : Fn B 1 (.ref 60) [pint x] (ptx [sgn x]) := by
  refine Fn.intro (xs := [Str.ofString "x"]) (get_of W.K rfl rfl rfl rfl) ?_ rfl ?_
  · intro A h₀ hr hh hb
    by_cases h3 : x.fmod 6 = 0 ∨ x.fmod 6 = 3 ∨ x.fmod 6 = 4
    · have e : sgn x = 34 := if_pos h3
      rw [e]
      refine Ex.leave (Ex1.ite (c := true) (EvT.cast (EvT.cmp (Ev.inInts (ns := [0, 3, 4]) (Ev.mod (Ev.name rfl) Ev.int (by decide)) (Ev.tuple (ds := [.int 0, .int 3, .int 4]) (EvL.cons Ev.int (EvL.cons Ev.int (EvL.cons Ev.int EvL.nil)))))) ?_) (fun _ => Ex.leave (Ex1.ret Ev.tx)) (fun h => nomatch h))
      rcases h3 with h | h | h <;> rw [h] <;> rfl
    · have e : sgn x = if x.fmod 6 = 1 then 35 else (97 + (x.fdiv 6).fmod 25000).toNat := if_neg h3
      rw [e]
      refine Ex.cons (Ex1.ite (c := false) (EvT.cast (EvT.cmp (Ev.inInts (ns := [0, 3, 4]) (Ev.mod (Ev.name rfl) Ev.int (by decide)) (Ev.tuple (ds := [.int 0, .int 3, .int 4]) (EvL.cons Ev.int (EvL.cons Ev.int (EvL.cons Ev.int EvL.nil)))))) ?_) (fun h => nomatch h) (fun _ => Ex.nil)) ?_
      · simp only [List.any_cons, List.any_nil, Bool.or_false, Bool.or_eq_false_iff, beq_eq_false_iff_ne]; omega
      · refine Ex.leave (Ex1.ret (Ev.ite (c := decide (x.fmod 6 = 1)) (EvT.ic (Ev.mod (Ev.name rfl) Ev.int (by decide)) Ev.int (by simp [cmpI]; rfl)) (fun h => ?_) (fun h => ?_)))
        · rw [if_pos (of_decide_eq_true h)]; exact Ev.tx
        · rw [if_neg (of_decide_eq_false h)]
          have h1 : 0 ≤ (x.fdiv 6).fmod 25000 ∧ (x.fdiv 6).fmod 25000 < 25000 := by rw [Int.fmod_eq_emod_of_nonneg _ (by decide)]; omega
          exact Ev.call (H := anyH) (Ev.bltK W.K rfl (by rfl) (by kernel_rfl) (by decide) (by decide)) (EvL.cons (Ev.add Ev.int (Ev.mod (Ev.fdiv (Ev.name rfl) Ev.int (by decide) (by decide)) Ev.int (by decide))) EvL.nil) (fn_chr _ (by omega) (by omega)) hr.deeper trivial
  · exact bind1 fun a => rfl
noncomputable def gl (d a b : Int) : Int := if d = 2 then a else if d = 3 then (a + b).fdiv 2 else b
theorem fn_goal (W : W1 B) {H : Option Value → Prop} (d a b : Int) (hd : d = 2 ∨ d = 3 ∨ d = 4) : Fn B 1 (.ref 86) [pint d, pd (.tup [.int a, .int b])] (pint (gl d a b)) H := by
  refine Fn.introH (xs := [Str.ofString "deed", Str.ofString "span"]) (get_of W.K rfl rfl rfl rfl) ?_ rfl ?_
  · intro A h₀ hr hh hb
    refine Ex.leave (Ex1.ret (Ev.ixL (l := [.int a, .int ((a + b).fdiv 2), .int b]) (k := d - 2) (Ev.list (EvL.cons (Ev.ixT (k := 0) (Ev.name rfl) Ev.int (by decide) (by decide) rfl) (EvL.cons (Ev.fdiv (Ev.add (Ev.ixT (k := 0) (Ev.name rfl) Ev.int (by decide) (by decide) rfl) (Ev.ixT (k := 1) (Ev.name rfl) Ev.int (by decide) (by decide) rfl)) Ev.int (by decide) (by decide)) (EvL.cons (Ev.ixT (k := 1) (Ev.name rfl) Ev.int (by decide) (by decide) rfl) EvL.nil)))) (Ev.sub (Ev.name rfl) Ev.int) (by omega) (by omega) ?_))
    rcases hd with rfl | rfl | rfl <;> rfl
  · exact bind2 fun a b => rfl
end Mine
open PySem PySem.W PyProof.Rows
set_option Elab.async false
set_option maxRecDepth 100000
set_option maxHeartbeats 1000000
set_option linter.unusedVariables false
set_option linter.unusedSimpArgs false
namespace Mine
variable {B : Bs}
theorem fn_parse0 {H : Option Value → Prop} (HK : (K1 B).In B.hb) (R : List Nat) (h1 : slc R none (some 3) = [50, 53, 55]) (h2 : slc R (some 3) (some 5) ≠ [32, 34]) (hz : R.length ≤ sizeLine) : Fn B 1 (.ref 53) [ptx R] (ptx []) H := by
  refine Fn.introH (xs := [Str.ofString "resp"]) (get_of HK rfl rfl rfl rfl) ?_ rfl ?_
  · intro A h₀ hr hh hb
    refine Ex.cons (Ex1.ite (c := false) (EvT.nec (i := slc R none (some 3)) (j := [50, 53, 55]) (Ev.slS (a := Option.none) (b := some 3) (Ev.name rfl) trivial Ev.int trivial (by show (0:Int) ≤ 3; decide) hz) Ev.tx (by rw [h1]; rfl)) (fun h => nomatch h) fun _ => Ex.nil) ?_
    exact Ex.leave (Ex1.ite (c := true) (EvT.nec (i := slc R (some 3) (some 5)) (j := [32, 34]) (Ev.slS (a := some 3) (b := some 5) (Ev.name rfl) Ev.int Ev.int (by show (0:Int) ≤ 3; decide) (by show (0:Int) ≤ 5; decide) hz) Ev.tx (by simpa using h2)) (fun _ => Ex.leave (Ex1.ret Ev.tx)) (fun h => nomatch h))
  · exact bind1 fun a => rfl
/-- what is told in the reading deeds -/
noncomputable def tl (d : Int) (rest : List Nat) : List Nat := if d = 0 then nm rest else match rest with
  | [] => []
  | c :: r => if c = 34 then nm r else []
noncomputable def opn (d : Int) (rest : List Nat) : Bool := decide (d = 0) || (rest.take 1 == [34])
noncomputable def stepD (l : List Nat) (d : Int) (p : Nat) : D :=
  if d < 2 then .tup [.str (mkS (tl d (l.drop p))), .int ((tl d (l.drop p)).length % 2 : Nat), .int (p + if opn d (l.drop p) then d + (tl d (l.drop p)).length + (tl d (l.drop p)).count 34 + 1 else 0)]
  else match sr l p with
    | none => .tup [.none, .int 0, .int 0]
    | some (i, j) => .tup [.tup [.int i, .int j], .int 1, .int (gl d i j)]
theorem nm_len : ∀ (n : Nat) (l : List Nat), l.length ≤ n → (nm l).length ≤ l.length
  | _, [], _ => by simp [nm]
  | 0, c :: r, h => by simp at h
  | n + 1, c :: r, h => by
    have h' : r.length ≤ n := by simpa using h
    by_cases hc : c = 34
    · subst hc
      cases r with
      | nil => simp [nm]
      | cons d r =>
        by_cases hd : d = 34
        · subst hd
          have := nm_len n r (by simp at h'; omega)
          simp [nm]; omega
        · simp [nm, hd]
    · rw [nm_ne r hc]
      have := nm_len n r h'
      simp; omega
theorem tl_len (d : Int) (l : List Nat) : (tl d l).length ≤ l.length := by
  unfold tl
  split
  · exact nm_len _ l (Nat.le_refl _)
  · split
    · simp
    · rename_i c r
      split
      · have := nm_len _ r (Nat.le_refl _); simp; omega
      · simp
theorem slc_from {l : List Nat} {p : Nat} : slc l (some (p : Int)) none = l.drop p := by simp [slc]
theorem slc_to {l : List Nat} {p : Nat} : slc l none (some (p : Int)) = l.take p := by simp [slc]
theorem told_fn (W : W1 B) {H : Option Value → Prop} (d : Int) (hd : d = 0 ∨ d = 1) (l : List Nat) (hl : l.length ≤ 100) : Fn B 1 (.ref 53) [ptx ((if d = 0 then [50, 53, 55, 32, 34] else [50, 53, 55, 32]) ++ l)] (ptx (tl d l)) H := by
  rcases hd with rfl | rfl
  · exact fn_parse W.K l hl
  · rw [if_neg (by decide)]
    cases l with
    | nil => exact fn_parse0 W.K _ rfl (by decide) (by simp [sizeLine])
    | cons c r =>
      have e : tl 1 (c :: r) = if c = 34 then nm r else [] := rfl
      rw [e]
      by_cases hc : c = 34
      · subst hc
        exact fn_parse W.K r (by simp at hl; omega)
      · simp only [hc, if_false]
        refine fn_parse0 W.K _ rfl ?_ (by simp at hl ⊢; simp [sizeLine]; omega)
        show ([32, c] : List Nat) ≠ [32, 34]
        simpa using hc
theorem attr_notNone {F : Addr → Prop} {h : Heap} {v : Value} {name : Str} {P : Pd B} (x : (pattr (B := B) name P).p F h v) : (v == Value.none) = false := by
  obtain ⟨a, o, fd, d, m, w, rfl, _⟩ := x; rfl
theorem fn_step (W : W1 B) (l : List Nat) (d : Int) (p : Nat) (hl : l.length ≤ 100) (hd : 0 ≤ d ∧ d ≤ 4) (hp : p ≤ l.length) : Fn B 3 (.ref 100) [pprog, ptx l, pint d, pint (p : Int)] (pd (stepD l d p)) := by
  refine Fn.intro (xs := [Str.ofString "prog", Str.ofString "row", Str.ofString "deed", Str.ofString "place"]) (get_of W.K rfl rfl rfl rfl) ?_ rfl ?_
  · intro A h₀ hr hh hb
    have hz : l.length ≤ sizeLine := Nat.le_trans hl (by decide)
    have hdl : (l.drop p).length ≤ 100 := by simp; omega
    have htl := tl_len d (l.drop p)
    refine Ex.cons (Ex1.assign (Ev.castS (Ev.slS (a := some (p : Int)) (b := Option.none) (Ev.name rfl) (Ev.name rfl) trivial (by show (0 : Int) ≤ p; omega) trivial hz) slc_from) (.inl rfl)) ?_
    by_cases h2 : d < 2
    · have e : stepD l d p = .tup [.str (mkS (tl d (l.drop p))), .int ((tl d (l.drop p)).length % 2 : Nat), .int (p + if opn d (l.drop p) then d + (tl d (l.drop p)).length + (tl d (l.drop p)).count 34 + 1 else 0)] := if_pos h2
      rw [e]
      refine Ex.leave (Ex1.ite (c := true) (EvT.ic (Ev.name rfl) Ev.int (by simp [cmpI]; omega)) (fun _ => ?_) (fun h => nomatch h))
      have hd0 : ∀ {b}, decide (d = 0) = b → cmpI .Eq d 0 = b := fun {b} h => by rw [← h]; rfl
      refine Ex.cons (Ex1.assign (Ev.call (H := anyH) (Ev.glob rfl (glob1 W.K rfl)) (EvL.cons (Ev.catS (i := if d = 0 then [50, 53, 55, 32, 34] else [50, 53, 55, 32]) (Ev.ite (c := decide (d = 0)) (EvT.ic (Ev.name rfl) Ev.int (hd0 rfl)) (fun h => by rw [if_pos (of_decide_eq_true h)]; exact Ev.tx) (fun h => by rw [if_neg (of_decide_eq_false h)]; exact Ev.tx)) (Ev.name rfl) ?_) EvL.nil) (told_fn W d (by omega) (l.drop p) hdl) (hr.deeper.le (by omega)) trivial) (.inl rfl)) ?_
      · split <;> simp at hdl ⊢ <;> omega
      refine Ex.cons (Ex1.assign (P := pbool (opn d (l.drop p))) (Ev.or2 (Ev.ic (Ev.name rfl) Ev.int (hd0 rfl)) (fun _ => Ev.eqc (i := (l.drop p).take 1) (j := [34]) (Ev.castS (Ev.slS (a := Option.none) (b := some ((1 : Nat) : Int)) (Ev.name rfl) trivial Ev.int trivial (by show (0 : Int) ≤ 1; decide) (Nat.le_trans hdl (by decide))) slc_to) Ev.tx rfl)) (.inl rfl)) ?_
      refine Ex.leave (Ex1.ret (Ev.tuple (EvL.cons (Ev.name rfl) (EvL.cons (Ev.castI (Ev.mod (Ev.len W.K (Ev.name rfl) (by omega) (hr.deeper.le (by omega)) rfl (by rfl)) Ev.int (by decide)) ?_) (EvL.cons (Ev.add (Ev.name rfl) (Ev.ite (c := opn d (l.drop p)) (EvT.bool (Ev.name rfl)) (fun h => ?_) (fun h => ?_))) EvL.nil)))))
      · rw [Int.fmod_eq_emod_of_nonneg _ (by decide)]; omega
      · rw [if_pos h]
        exact Ev.add (Ev.add (Ev.add (Ev.name rfl) (Ev.len W.K (Ev.name rfl) (by omega) (hr.deeper.le (by omega)) rfl (by rfl))) (Ev.countS (Ev.name rfl) Ev.tx (hr.deeper.le (by omega)))) Ev.int
      · rw [h, if_neg (by decide)]
        exact Ev.int
    · have e : stepD l d p = match sr l p with | none => .tup [.none, .int 0, .int 0] | some (i, j) => .tup [.tup [.int i, .int j], .int 1, .int (gl d i j)] := if_neg h2
      rw [e]
      refine Ex.cons (Ex1.ite (c := false) (EvT.ic (Ev.name rfl) Ev.int (by simp [cmpI]; omega)) (fun h => nomatch h) (fun _ => Ex.nil)) ?_
      refine Ex.cons (Ex1.assign (Ev.call (Ev.glob rfl (glob1 W.K rfl)) (EvL.cons (Ev.name rfl) (EvL.cons (Ev.name rfl) (EvL.cons (Ev.name rfl) EvL.nil))) (fn_sr W l p hl) hr.deeper hh) (.inl rfl)) ?_
      cases hs : sr l p with
      | none =>
        exact Ex.leave (Ex1.ite (c := true) (EvT.cmp (Ev.isN (d := .none) (Ev.name rfl))) (fun _ => Ex.leave (Ex1.ret (Ev.tuple (ds := [.none, .int 0, .int 0]) (EvL.cons Ev.none (EvL.cons Ev.int (EvL.cons Ev.int EvL.nil)))))) (fun h => nomatch h))
      | some ij =>
        obtain ⟨i, j⟩ := ij
        refine Ex.cons (Ex1.ite (c := false) (EvT.cmp (Ev.isNone (P := phit i j) (Ev.name rfl) fun F h v x => attr_notNone x)) (fun h => nomatch h) (fun _ => Ex.nil)) ?_
        refine Ex.leave (Ex1.ret (Ev.tuple (EvL.cons (Ev.callA (Q := pcall 1 [] (pd (.tup [.int i, .int j]))) (Ev.name rfl) (fun F h v x => x) EvL.nil (hr.deeper.le (by omega)) hh fn_noSpan) (EvL.cons Ev.int (EvL.cons (Ev.call (H := anyH) (Ev.glob rfl (glob1 W.K rfl)) (EvL.cons (Ev.name rfl) (EvL.cons (Ev.callA (Q := pcall 1 [] (pd (.tup [.int i, .int j]))) (Ev.name rfl) (fun F h v x => x) EvL.nil (hr.deeper.le (by omega)) hh fn_noSpan) EvL.nil)) (fn_goal W d i j (by omega)) (hr.deeper.le (by omega)) trivial) EvL.nil)))))
  · exact bind4 fun a b c d => rfl
end Mine
open PySem PySem.W PyProof.Rows
set_option Elab.async false
set_option maxRecDepth 100000
set_option maxHeartbeats 1000000
set_option linter.unusedVariables false
set_option linter.unusedSimpArgs false
namespace Mine
variable {B : Bs}
noncomputable def nthS : List Stmt → Nat → Stmt
  | s :: _, 0 => s
  | _ :: r, n + 1 => nthS r n
  | [], _ => .Pass ⟨0, 0, 0, 0⟩
noncomputable def inS (s : Stmt) : List Stmt := (partsS s).2.2.1
noncomputable def tgtS (s : Stmt) : Expr := (partsS s).1
theorem getD_at {α : Type} {l : List α} {i : Nat} (d : α) (h : i < l.length) : l[i]? = some (l.getD i d) := by simp [h]
theorem mulOk2 {d : Int} : IntMulOk 2 d := IntMulOk.of_left (by decide +kernel)
/-- what a walker is told: a name, a match's span, or none -/
inductive Lg where
  | non
  | name (t : List Nat)
  | span (i j : Nat)
noncomputable def Lg.d : Lg → D
  | .non => .none
  | .name t => .str (mkS t)
  | .span i j => .tup [.int i, .int j]
noncomputable def lastD : Option (Nat × Nat) → D
  | none => .none
  | some (i, j) => .tup [.int i, .int j]
noncomputable def lastL : Option (Nat × Nat) → Lg
  | none => .non
  | some (i, j) => .span i j
theorem lastL_d (o : Option (Nat × Nat)) : (lastL o).d = lastD o := by cases o <;> rfl
/-- where a walker stands, as far as it hangs on what is passed -/
structure En where
  w : Nat
  s : Nat
  t : List Nat
  g : List Lg
noncomputable def enD : Option En → D
  | none => .none
  | some e => .tup [.int e.w, .int e.s, .str (mkS e.t), .lst (e.g.map Lg.d)]
noncomputable def okE (T N : Nat) : Option En → Prop
  | none => True
  | some e => e.w ≤ 2 ∧ e.s < 3 ∧ e.t.length ≤ T ∧ e.g.length ≤ N
/-- the deeds and the next states -/
structure Par where
  dd : Nat → Nat
  nx : Nat → Nat → Nat
structure Par.Ok (P : Par) : Prop where
  dd : ∀ s, P.dd s ≤ 4
  nx : ∀ s w, P.nx s w < 3
noncomputable def Par.deeds (P : Par) : D := .lst [.int (P.dd 0), .int (P.dd 1), .int (P.dd 2)]
noncomputable def Par.nexts (P : Par) : D := .lst [.lst [.int (P.nx 0 0), .int (P.nx 0 1)], .lst [.int (P.nx 1 0), .int (P.nx 1 1)], .lst [.int (P.nx 2 0), .int (P.nx 2 1)]]
noncomputable def gln (d i j : Nat) : Nat := if d = 2 then i else if d = 3 then (i + j) / 2 else j
theorem gln_eq (d i j : Nat) : gl d i j = gln d i j := by
  unfold gl gln
  by_cases h2 : d = 2
  · simp [h2]
  · by_cases h3 : d = 3
    · simp [h3]; rw [Int.fdiv_eq_ediv_of_nonneg _ (by decide)]
    · have : ¬ (d : Int) = 2 := by omega
      have : ¬ (d : Int) = 3 := by omega
      simp [*]
noncomputable def goalOf (d : Nat) : Option (Nat × Nat) → Nat
  | none => 0
  | some (i, j) => gln d i j
noncomputable def nsx (o : Option (Nat × Nat)) : Nat := if o.isSome then 1 else 0
/-- one begins at place, in a state that does not read, as long as one does not leave place -/
noncomputable def stA (P : Par) (place : Nat) (last : Option (Nat × Nat)) (keeps : List (List (Option En))) : Nat → Nat → List Lg → Option En
  | 0, _, _ => none
  | n + 1, s, log =>
    if P.dd s < 2 then some ⟨2 * P.dd s, s, [], log⟩
    else
      let s' := P.nx s (nsx last)
      let log' := log ++ [lastL last]
      let goal := goalOf (P.dd s) last
      if goal < place then ((keeps.getD goal []).getD s' none).map fun e => { e with g := log' ++ e.g }
      else stA P place last keeps n s' log'
theorem ix3 {α : Type} (f : Nat → α) {s : Nat} (h : s < 3) : [f 0, f 1, f 2][s]? = some (f s) := by
  match s, h with
  | 0, _ | 1, _ | 2, _ => rfl
theorem ix2 {α : Type} (f : Nat → α) {s : Nat} (h : s < 2) : [f 0, f 1][s]? = some (f s) := by
  match s, h with
  | 0, _ | 1, _ => rfl
noncomputable def fdOf (K : Frag) (a : Addr) : FuncData := match K.lookup a with
  | some ⟨_, _, .func fd, _⟩ => fd
  | _ => mkFd "" "" ⟨[], [], none, [], [], none, []⟩ (.stmts []) { kind := .module, names := [] , isGenerator := false, isCoroutine := false, more := [] } [] .none .none .none .none 0
noncomputable abbrev C1 (B : Bs) (A : Around) (h₀ : Heap) (a : Addr) : Cx B := mkC B A h₀ (fdOf (K1 B) a) a
noncomputable abbrev oldStand (P : Par) (place : Nat) (last : Option (Nat × Nat)) (keeps : List (List (Option En))) (a : Addr) : List (String × Pd B) :=
  [("place", pint (place : Int)), ("last", pd (lastD last)), ("keeps", pd (.lst (keeps.map fun r => .lst (r.map enD)))), ("deeds", pd P.deeds), ("nexts", pd P.nexts), ("stand", pv (.ref a))]
theorem stand_turns (W : W1 B) (P : Par) (hP : P.Ok) {A : Around} {h₀ : Heap} (hr : Room 2 A) (hh : A.handled = none) {a : Addr} {place N : Nat} {last : Option (Nat × Nat)} {keeps : List (List (Option En))} {μ : Mu B} (hk : keeps.length = place) (hk3 : ∀ r ∈ keeps, r.length = 3 ∧ ∀ e ∈ r, okE 20 N e)
    (hN : N + 10 ≤ sizeLine) (hpl : place ≤ 20) (hl : ∀ i j, last = some (i, j) → i ≤ 30 ∧ j ≤ 30) : ∀ (n : Nat) (x : Int) (s : Nat) (log : List Lg), s < 3 → log.length + n ≤ 3 →
    Fo (C1 B A h₀ 112) (al (oldStand P place last keeps a ++ [("state", pint (s : Int)), ("log", pd (.lst (log.map Lg.d))), ("entry", pnone)])) μ (rints x 1 n) (tgtS (nthS (inS (nthS (bodyOf (K1 B) 112) 1)) 1)) (inS (nthS (inS (nthS (bodyOf (K1 B) 112) 1)) 1))
      (.next (al (oldStand P place last keeps a ++ [("entry", pd (enD (stA P place last keeps n s log)))])) μ)
  | 0, x, s, log, hs, hlg => Fo.to (Fo.nil hh) (.next ⟨rfl, rfl, rfl, rfl, rfl, rfl, rfl, trivial⟩)
  | n + 1, x, s, log, hs, hlg => by
    by_cases h2 : P.dd s < 2
    · have e : stA P place last keeps (n + 1) s log = some ⟨2 * P.dd s, s, [], log⟩ := by simp [stA, h2]
      rw [e]
      refine Fo.brk (Asg.name (.inl rfl)) (Ex.cons (Ex1.assign (Ev.ixL (l := [.int (P.dd 0), .int (P.dd 1), .int (P.dd 2)]) (Ev.name rfl) (Ev.name rfl) (by omega) (by omega) (by rw [Int.toNat_natCast]; exact ix3 (fun s => D.int (P.dd s)) hs)) (.inl rfl)) (Ex.leave (Ex1.ite (c := true) (EvT.ic (Ev.name rfl) Ev.int (by simp [cmpI]; omega)) (fun _ => ?_) (fun h => nomatch h))))
      exact Ex.to (Ex.cons (Ex1.assign (P := pd (enD (some ⟨2 * P.dd s, s, [], log⟩))) (Ev.castD (Ev.tuple (ds := [.int (2 * P.dd s), .int s, .str (mkS []), .lst (log.map Lg.d)]) (EvL.cons (Ev.mul Ev.int (Ev.name rfl) mulOk2) (EvL.cons (Ev.name rfl) (EvL.cons Ev.tx (EvL.cons (Ev.name rfl) EvL.nil))))) (by simp [enD])) (.inl rfl)) (Ex.leave Ex1.brk)) (.brk ⟨rfl, rfl, rfl, rfl, rfl, rfl, rfl, trivial⟩)
    · have hd4 := hP.dd s
      generalize hlog' : log ++ [lastL last] = log'
      generalize hs' : P.nx s (nsx last) = s'
      have hs3 : s' < 3 := hs' ▸ hP.nx _ _
      generalize hg : goalOf (P.dd s) last = goal
      have e : stA P place last keeps (n + 1) s log = if goal < place then ((keeps.getD goal []).getD s' none).map (fun e => { e with g := log' ++ e.g }) else stA P place last keeps n s' log' := by
        simp only [stA, h2, if_false, hlog', hs', hg]
      rw [e]
      have hlog3 : log'.length = log.length + 1 := by rw [← hlog']; simp
      have hidx : nsx last < 2 := by unfold nsx; split <;> omega
      -- the walk of the first five statements
      have walk : ∀ {o : Out B} {rest : List Stmt}, Ex (C1 B A h₀ 112) (al (oldStand P place last keeps a ++ [("state", pint (s' : Int)), ("log", pd (.lst (log'.map Lg.d))), ("goal", pint (goal : Int)), ("entry", pnone)])) μ [nthS (inS (nthS (inS (nthS (bodyOf (K1 B) 112) 1)) 1)) 5] o →
          Ex (C1 B A h₀ 112) (upd (al (oldStand P place last keeps a ++ [("state", pint (s : Int)), ("log", pd (.lst (log.map Lg.d))), ("entry", pnone)])) (Str.ofString "turn") (pint x)) μ (inS (nthS (inS (nthS (bodyOf (K1 B) 112) 1)) 1)) o := fun {o rest} k => by
        refine Ex.cons (Ex1.assign (Ev.ixL (l := [.int (P.dd 0), .int (P.dd 1), .int (P.dd 2)]) (Ev.name rfl) (Ev.name rfl) (by omega) (by omega) (by rw [Int.toNat_natCast]; exact ix3 (fun s => D.int (P.dd s)) hs)) (.inl rfl)) ?_
        refine Ex.cons (Ex1.ite (c := false) (EvT.ic (Ev.name rfl) Ev.int (by simp [cmpI]; omega)) (fun h => nomatch h) (fun _ => Ex.nil)) ?_
        refine Ex.cons (Ex1.assign (P := pd (.lst (log'.map Lg.d))) (Ev.castD (Ev.catL (x := log.map Lg.d) (y := [lastD last]) (Ev.name rfl) (Ev.list (EvL.cons (Ev.name rfl) EvL.nil)) (by simp [sizeLine]; omega)) (by rw [← hlog']; simp [lastL_d])) (.inl rfl)) ?_
        refine Ex.cons (Ex1.assign (P := pint (s' : Int)) (Ev.cast (Ev.ixL (l := [.int (P.nx s 0), .int (P.nx s 1)]) (k := (nsx last : Nat)) (d := .int (P.nx s (nsx last))) (Ev.ixL (l := [.lst [.int (P.nx 0 0), .int (P.nx 0 1)], .lst [.int (P.nx 1 0), .int (P.nx 1 1)], .lst [.int (P.nx 2 0), .int (P.nx 2 1)]]) (Ev.name rfl) (Ev.name rfl) (by omega) (by omega) (by rw [Int.toNat_natCast]; exact ix3 (fun s => D.lst [.int (P.nx s 0), .int (P.nx s 1)]) hs))
          (Ev.ite (c := (lastD last).isNone) (EvT.cmp (Ev.isN (Ev.name rfl))) (fun h => ?_) (fun h => ?_)) (by omega) (by omega) (by rw [Int.toNat_natCast]; exact ix2 (fun w => D.int (P.nx s w)) hidx)) (by rw [hs'])) (.inl rfl)) ?_
        · cases last with
          | none => exact Ev.int
          | some ij => cases h
        · cases last with
          | none => cases h
          | some ij => exact Ev.int
        refine Ex.cons (Ex1.assign (P := pint (goal : Int)) (Ev.ite (c := (lastD last).isNone) (EvT.cmp (Ev.isN (Ev.name rfl))) (fun h => ?_) (fun h => ?_)) (.inl rfl)) ?_
        · cases last with
          | none => subst hg; exact Ev.int
          | some ij => cases h
        · cases last with
          | none => cases h
          | some ij =>
            obtain ⟨i, j⟩ := ij
            subst hg
            exact Ev.castI (Ev.call (H := anyH) (Ev.glob rfl (glob1 W.K rfl)) (EvL.cons (Ev.name rfl) (EvL.cons (Ev.name rfl) EvL.nil)) (fn_goal W (P.dd s) i j (by omega)) (hr.deeper.le (by omega)) trivial) (gln_eq _ _ _)
        refine Ex.wk ?_ k
        exact ⟨rfl, rfl, rfl, rfl, rfl, rfl, rfl, rfl, rfl, rfl, trivial⟩
      by_cases hgp : goal < place
      · rw [if_pos hgp]
        have hget : keeps[goal]? = some (keeps.getD goal []) := getD_at [] (by omega)
        generalize hrr : keeps.getD goal [] = r at hget
        have hmem : r ∈ keeps := List.mem_of_getElem? hget
        obtain ⟨hr3, hok⟩ := hk3 r hmem
        have hget2 : r[s']? = some (r.getD s' none) := getD_at none (by omega)
        generalize hee : r.getD s' none = en at hget2
        have hoke := hok en (List.mem_of_getElem? hget2)
        refine Fo.brk (Asg.name (.inl rfl)) (walk (rest := []) (Ex.leave (Ex1.ite (c := true) (EvT.ic (Ev.name rfl) (Ev.name rfl) (cmp_lt hgp)) (fun _ => ?_) (fun h => nomatch h))))
        refine Ex.cons (Ex1.assign (P := pd (enD en)) (Ev.ixL (l := r.map enD) (k := (s' : Int)) (Ev.ixL (l := keeps.map fun r => .lst (r.map enD)) (k := (goal : Int)) (Ev.name rfl) (Ev.name rfl) (by omega) (by omega) (by rw [Int.toNat_natCast]; simp [hget])) (Ev.name rfl) (by omega) (by omega) (by rw [Int.toNat_natCast]; simp [hget2])) (.inl rfl)) ?_
        cases en with
        | none =>
          exact Ex.cons (Ex1.ite (c := false) (EvT.cmp (Ev.isNN (d := .none) (Ev.name rfl))) (fun h => nomatch h) (fun _ => Ex.nil)) (Ex.to (Ex.leave Ex1.brk) (.brk ⟨rfl, rfl, rfl, rfl, rfl, rfl, rfl, trivial⟩))
        | some e =>
          obtain ⟨w, es, t, g⟩ := e
          have hg := hoke.2.2.2
          refine Ex.cons (Ex1.ite (c := true) (EvT.cmp (Ev.isNN (d := enD (some ⟨w, es, t, g⟩)) (Ev.name rfl))) (fun _ => ?_) (fun h => nomatch h)) (Ex.to (Ex.leave Ex1.brk) (.brk (ρ := al (oldStand P place last keeps a ++ [("entry", pd (enD (some ⟨w, es, t, log' ++ g⟩)))])) ⟨rfl, rfl, rfl, rfl, rfl, rfl, rfl, trivial⟩))
          have ix : ∀ (k : Nat) (d : D), ([.int w, .int es, .str (mkS t), .lst (g.map Lg.d)] : List D)[k]? = some d → k < 10 → ∀ (p1 p2 p3 : Pos) (n : Nat), Ev (C1 B A h₀ 112) (upd (al (oldStand P place last keeps a ++ [("state", pint (s' : Int)), ("log", pd (.lst (log'.map Lg.d))), ("goal", pint (goal : Int)), ("entry", pnone)])) (Str.ofString "entry") (pd (enD (some ⟨w, es, t, g⟩)))) μ (.Subscript (.Name (Str.ofString "entry") p1) (.Constant (.int k) n p2) p3) (pd d) := fun k d hk hk10 p1 p2 p3 n => Ev.ixT (l := [.int w, .int es, .str (mkS t), .lst (g.map Lg.d)]) (k := k) (Ev.name rfl) Ev.int (by omega) (by omega) (by rw [Int.toNat_natCast]; exact hk)
          refine Ex.to (Ex.cons (Ex1.assign (P := pd (enD (some ⟨w, es, t, log' ++ g⟩))) (Ev.castD (Ev.tuple (ds := [.int w, .int es, .str (mkS t), .lst (log'.map Lg.d ++ g.map Lg.d)]) (EvL.cons (ix 0 _ rfl (by decide) _ _ _ _) (EvL.cons (ix 1 _ rfl (by decide) _ _ _ _) (EvL.cons (ix 2 _ rfl (by decide) _ _ _ _) (EvL.cons (Ev.catL (Ev.name rfl) (ix 3 _ rfl (by decide) _ _ _ _) ?_) EvL.nil))))) (by simp [enD])) (.inl rfl)) Ex.nil) (.next (by repeat (first | exact trivial | refine And.intro rfl ?_)))
          simp only [List.length_map]
          have : g.length ≤ N := hg
          omega
      · rw [if_neg hgp]
        refine Fo.next (Asg.name (.inl rfl)) (walk (rest := []) (Ex.to (Ex.cons (Ex1.ite (c := false) (EvT.ic (Ev.name rfl) (Ev.name rfl) (cmp_nlt hgp)) (fun h => nomatch h) (fun _ => Ex.nil)) Ex.nil) (.next (l := oldStand P place last keeps a ++ [("state", pint (s' : Int)), ("log", pd (.lst (log'.map Lg.d))), ("entry", pnone)]) (by repeat (first | exact trivial | refine And.intro rfl ?_))))) ?_
        exact stand_turns W P hP hr hh hk hk3 hN hpl hl n (x + 1) s' log' hs3 (by omega)
end Mine
open PySem PySem.W PyProof.Rows
set_option Elab.async false
set_option maxRecDepth 100000
set_option maxHeartbeats 1000000
set_option linter.unusedVariables false
set_option linter.unusedSimpArgs false
namespace Mine
variable {B : Bs}
noncomputable def standOf (P : Par) (place : Nat) (last : Option (Nat × Nat)) (keeps : List (List (Option En))) : List (Option En) := [stA P place last keeps 3 0 [], stA P place last keeps 3 1 [], stA P place last keeps 3 2 []]
theorem fn_stand (W : W1 B) (P : Par) (hP : P.Ok) {place N : Nat} {last : Option (Nat × Nat)} {keeps : List (List (Option En))} (hk : keeps.length = place) (hk3 : ∀ r ∈ keeps, r.length = 3 ∧ ∀ e ∈ r, okE 20 N e)
    (hN : N + 10 ≤ sizeLine) (hpl : place ≤ 20) (hl : ∀ i j, last = some (i, j) → i ≤ 30 ∧ j ≤ 30) :
    Fn B 2 (.ref 112) [pint (place : Int), pd (lastD last), pd (.lst (keeps.map fun r => .lst (r.map enD))), pd P.deeds, pd P.nexts] (pd (.lst ((standOf P place last keeps).map enD))) := by
  refine Fn.intro (xs := [Str.ofString "place", Str.ofString "last", Str.ofString "keeps", Str.ofString "deeds", Str.ofString "nexts"]) (get_of W.K rfl rfl rfl rfl) ?_ rfl ?_
  · intro A h₀ hr hh hb
    refine Ex.own (EvN.list EvL.nil (Nat.zero_le _)) (.inl rfl) fun a ha => ?_
    -- one turn of the outer loop
    have body : ∀ (b : Nat) (μ : Mu B) (Ps : List (Pd B)), b < 3 → μ a = some Ps → Ps.length ≤ 10 →
        Ex (C1 B A h₀ 112) (upd (al (oldStand P place last keeps a)) (Str.ofString "begin") (pint (b : Int))) μ (inS (nthS (bodyOf (K1 B) 112) 1)) (.next (al (oldStand P place last keeps a)) (updM μ a (Ps ++ [pd (enD (stA P place last keeps 3 b []))]))) := by
      intro b μ Ps hb3 hμ hPs
      refine Ex.cons (Ex1.assignSw (names := [Str.ofString "state", Str.ofString "log", Str.ofString "entry"]) hh (Ev.tuple (ds := [.int b, .lst [], .none]) (EvL.cons (Ev.name rfl) (EvL.cons (Ev.list (ds := []) EvL.nil) (EvL.cons Ev.none EvL.nil)))) (AsgL.bind (.inl rfl) (AsgL.bind (.inl rfl) (AsgL.bind (.inl rfl) AsgL.nil)))) ?_
      have e3 : Builtin.Range.rangeSize 0 3 1 = 3 := by decide
      refine Ex.cons (Ex1.for (EvI.range (n := 3) (Ev.call (H := anyH) (Ev.bltK W.K rfl (by rfl) (by kernel_rfl) (by decide) (by decide)) (EvL.cons Ev.int EvL.nil) (fn_range1 3) (hr.deeper.le (by omega)) trivial) (by decide) e3)
        (Fo.wk (l := oldStand P place last keeps a ++ [("state", pint (b : Int)), ("log", pd (.lst (([] : List Lg).map Lg.d))), ("entry", pnone)]) (by repeat (first | exact trivial | refine And.intro rfl ?_)) (stand_turns W P hP hr hh hk hk3 hN hpl hl 3 0 b [] hb3 (by decide)))) ?_
      exact Ex.cons (Ex1.append (Ev.name rfl) hμ (Ev.name rfl) (Nat.le_trans hPs (by decide))) (Ex.to Ex.nil (.next (by repeat (first | exact trivial | refine And.intro rfl ?_))))
    refine Ex.cons (Ex1.for (EvI.range (n := 3) (Ev.call (H := anyH) (Ev.bltK W.K rfl (by rfl) (by kernel_rfl) (by decide) (by decide)) (EvL.cons Ev.int EvL.nil) (fn_range1 3) (hr.deeper.le (by omega)) trivial) (by decide) (by decide))
      (Fo.wk (l := oldStand P place last keeps a) (by repeat (first | exact trivial | refine And.intro rfl ?_)) (Fo.next (Asg.name (.inl rfl)) (body 0 _ [] (by decide) (if_pos rfl) (Nat.zero_le _)) (Fo.next (Asg.name (.inl rfl)) (body 1 _ _ (by decide) (if_pos rfl) (by simp)) (Fo.next (Asg.name (.inl rfl)) (body 2 _ _ (by decide) (if_pos rfl) (by simp)) (Fo.nil hh)))))) ?_
    exact Ex.leave (Ex1.retOwn (a := a) (Ev.name rfl) (if_pos rfl))
  · exact bind5 fun a b c d e => rfl
end Mine
open PySem PySem.W PyProof.Rows
set_option Elab.async false
set_option maxRecDepth 100000
set_option maxHeartbeats 1000000
set_option linter.unusedVariables false
set_option linter.unusedSimpArgs false
namespace Mine
variable {B : Bs}
/-- one sign further -/
noncomputable def pu (P : Par) (sign : List Nat) (stand : List (Option En)) : Nat → Option En → Option En
  | 0, _ => none
  | _ + 1, none => none
  | n + 1, some e =>
    if e.w = 0 then (if sign = [34] then some ⟨1, e.s, e.t, e.g⟩ else some ⟨0, e.s, e.t ++ sign, e.g⟩)
    else if sign = [34] then some ⟨0, e.s, if e.w = 1 then e.t ++ [34] else e.t, e.g⟩
    else pu P sign stand n ((stand.getD (P.nx e.s (e.t.length % 2)) none).map fun f => { f with g := e.g ++ [Lg.name e.t] ++ f.g })
noncomputable abbrev puL (P : Par) (sign : List Nat) (stand : List (Option En)) (e : Option En) : List (String × Pd B) :=
  [("entry", pd (enD e)), ("sign", ptx sign), ("stand", pd (.lst (stand.map enD))), ("nexts", pd P.nexts)]
theorem pushed_turns (W : W1 B) (P : Par) (hP : P.Ok) {A : Around} {h₀ : Heap} (hr : Room 1 A) (hh : A.handled = none) {M : Nat} {sign : List Nat} {stand : List (Option En)} {μ : Mu B} (hs3 : stand.length = 3) (hst : ∀ e ∈ stand, okE 20 M e) (hsg : sign.length ≤ 1) :
    ∀ (n : Nat) (x : Int) (e : Option En) (N : Nat), okE 20 N e → N + n * (M + 1) ≤ sizeLine →
    Fo (C1 B A h₀ 119) (al (puL P sign stand e)) μ (rints x 1 n) (tgtS (nthS (bodyOf (K1 B) 119) 0)) (inS (nthS (bodyOf (K1 B) 119) 0)) (.ret (pd (enD (pu P sign stand n e)))) ∨
    (pu P sign stand n e = none ∧ Fo (C1 B A h₀ 119) (al (puL P sign stand e)) μ (rints x 1 n) (tgtS (nthS (bodyOf (K1 B) 119) 0)) (inS (nthS (bodyOf (K1 B) 119) 0)) (.next (al []) μ))
  | 0, x, e, N, he, hN => .inr ⟨rfl, Fo.to (Fo.nil hh) (.next trivial)⟩
  | n + 1, x, none, N, he, hN => .inl (Fo.ret (Asg.name (.inl rfl)) (Ex.leave (Ex1.ite (c := true) (EvT.cmp (Ev.isN (d := .none) (Ev.name rfl))) (fun _ => Ex.leave (Ex1.ret Ev.none)) (fun h => nomatch h))))
  | n + 1, x, some ⟨w, s, t, g⟩, N, he, hN => by
    obtain ⟨hw, hs, ht, hg⟩ := he
    dsimp only at hw hs ht hg
    have walk : ∀ {o : Out B}, Ex (C1 B A h₀ 119) (al (puL P sign stand (some ⟨w, s, t, g⟩) ++ [("waits", pint (w : Int)), ("state", pint (s : Int)), ("told", ptx t), ("log", pd (.lst (g.map Lg.d)))])) μ ((inS (nthS (bodyOf (K1 B) 119) 0)).drop 2) o →
        Ex (C1 B A h₀ 119) (upd (al (puL P sign stand (some ⟨w, s, t, g⟩))) (Str.ofString "turn") (pint x)) μ (inS (nthS (bodyOf (K1 B) 119) 0)) o := fun {o} k => by
      refine Ex.cons (Ex1.ite (c := false) (EvT.cmp (Ev.isN (d := enD (some ⟨w, s, t, g⟩)) (Ev.name rfl))) (fun h => nomatch h) (fun _ => Ex.nil)) ?_
      refine Ex.cons (Ex1.assignT (P := pd (.tup [.int w, .int s, .str (mkS t), .lst (g.map Lg.d)])) (Ev.name rfl) (Asg.tuple hh (AsgL.cons (Asg.name (.inl rfl)) (AsgL.cons (Asg.name (.inl rfl)) (AsgL.cons (Asg.name (.inl rfl)) (AsgL.cons (Asg.name (.inl rfl)) AsgL.nil)))))) ?_
      refine Ex.wk ?_ k
      repeat (first | exact trivial | refine And.intro rfl ?_)
    have hwe : ∀ {k : Nat}, cmpI .Eq (w : Int) (k : Int) = decide (w = k) := cmp_eqN
    by_cases hw0 : w = 0
    · left
      subst hw0
      refine Fo.ret (Asg.name (.inl rfl)) (walk (Ex.leave (Ex1.ite (c := true) (EvT.ic (Ev.name rfl) Ev.int (by simp [cmpI])) (fun _ => Ex.leave (Ex1.ret ?_)) (fun h => nomatch h))))
      by_cases h34 : sign = [34]
      · have e : pu P sign stand (n + 1) (some ⟨0, s, t, g⟩) = some ⟨1, s, t, g⟩ := by simp [pu, h34]
        rw [e]
        exact Ev.ite (c := true) (EvT.eqc (i := sign) (j := [34]) (Ev.name rfl) Ev.tx (by simp [h34])) (fun _ => Ev.castD (Ev.tuple (ds := [.int 1, .int s, .str (mkS t), .lst (g.map Lg.d)]) (EvL.cons Ev.int (EvL.cons (Ev.name rfl) (EvL.cons (Ev.name rfl) (EvL.cons (Ev.name rfl) EvL.nil))))) (by simp [enD])) (fun h => nomatch h)
      · have e : pu P sign stand (n + 1) (some ⟨0, s, t, g⟩) = some ⟨0, s, t ++ sign, g⟩ := by simp [pu, h34]
        rw [e]
        exact Ev.ite (c := false) (EvT.eqc (i := sign) (j := [34]) (Ev.name rfl) Ev.tx (by simpa using h34)) (fun h => nomatch h) (fun _ => Ev.castD (Ev.tuple (ds := [.int 0, .int s, .str (mkS (t ++ sign)), .lst (g.map Lg.d)]) (EvL.cons Ev.int (EvL.cons (Ev.name rfl) (EvL.cons (Ev.catS (Ev.name rfl) (Ev.name rfl) (by omega)) (EvL.cons (Ev.name rfl) EvL.nil))))) (by simp [enD]))
    · by_cases h34 : sign = [34]
      · left
        have e : pu P sign stand (n + 1) (some ⟨w, s, t, g⟩) = some ⟨0, s, if w = 1 then t ++ [34] else t, g⟩ := by simp [pu, h34, hw0]
        rw [e]
        refine Fo.ret (Asg.name (.inl rfl)) (walk (Ex.cons (Ex1.ite (c := false) (EvT.ic (Ev.name rfl) Ev.int (by simp [cmpI]; omega)) (fun h => nomatch h) (fun _ => Ex.nil)) (Ex.leave (Ex1.ite (c := true) (EvT.eqc (i := sign) (j := [34]) (Ev.name rfl) Ev.tx (by simp [h34])) (fun _ => Ex.leave (Ex1.ret ?_)) (fun h => nomatch h)))))
        refine Ev.castD (Ev.tuple (ds := [.int 0, .int s, .str (mkS (if w = 1 then t ++ [34] else t)), .lst (g.map Lg.d)]) (EvL.cons Ev.int (EvL.cons (Ev.name rfl) (EvL.cons (Ev.ite (c := decide (w = 1)) (EvT.ic (Ev.name rfl) Ev.int (hwe (k := 1))) (fun h => ?_) (fun h => ?_)) (EvL.cons (Ev.name rfl) EvL.nil))))) (by simp [enD])
        · rw [if_pos (of_decide_eq_true h)]; exact Ev.catS (Ev.name rfl) Ev.tx (by simp; omega)
        · rw [if_neg (of_decide_eq_false h)]; exact Ev.name rfl
      · have hx2 : t.length % 2 < 2 := Nat.mod_lt _ (by decide)
        have hget : stand[P.nx s (t.length % 2)]? = some (stand.getD (P.nx s (t.length % 2)) none) := getD_at none (by have := hP.nx s (t.length % 2); omega)
        have e : pu P sign stand (n + 1) (some ⟨w, s, t, g⟩) = pu P sign stand n ((stand.getD (P.nx s (t.length % 2)) none).map fun f => { f with g := g ++ [Lg.name t] ++ f.g }) := by
          conv => lhs; unfold pu
          rw [if_neg hw0, if_neg h34]
        rw [e]
        generalize hen : stand.getD (P.nx s (t.length % 2)) none = en at hget
        have hoke := hst en (List.mem_of_getElem? hget)
        have hok' : okE 20 (N + 1 + M) (en.map fun f => { f with g := g ++ [Lg.name t] ++ f.g }) := by
          cases en with
          | none => trivial
          | some f =>
            obtain ⟨fw, fs, ft, fg⟩ := f
            obtain ⟨a1, a2, a3, a4⟩ := hoke
            refine ⟨a1, a2, a3, ?_⟩
            simp only [List.length_append, List.length_cons, List.length_nil] at a4 ⊢
            omega
        have hN' : N + 1 + M + n * (M + 1) ≤ sizeLine := by rw [Nat.succ_mul] at hN; omega
        have step : Ex (C1 B A h₀ 119) (upd (al (puL P sign stand (some ⟨w, s, t, g⟩))) (Str.ofString "turn") (pint x)) μ (inS (nthS (bodyOf (K1 B) 119) 0)) (.next (al (puL P sign stand (en.map fun f => { f with g := g ++ [Lg.name t] ++ f.g }))) μ) := by
          refine walk (Ex.cons (Ex1.ite (c := false) (EvT.ic (Ev.name rfl) Ev.int (by simp [cmpI]; omega)) (fun h => nomatch h) (fun _ => Ex.nil)) (Ex.cons (Ex1.ite (c := false) (EvT.eqc (i := sign) (j := [34]) (Ev.name rfl) Ev.tx (by simpa using h34)) (fun h => nomatch h) (fun _ => Ex.nil)) ?_))
          refine Ex.cons (Ex1.assign (P := pd (enD en)) (Ev.ixL (l := stand.map enD) (k := (P.nx s (t.length % 2) : Nat)) (Ev.name rfl) (Ev.ixL (l := [.int (P.nx s 0), .int (P.nx s 1)]) (k := (t.length % 2 : Nat)) (d := .int (P.nx s (t.length % 2))) (Ev.ixL (l := [.lst [.int (P.nx 0 0), .int (P.nx 0 1)], .lst [.int (P.nx 1 0), .int (P.nx 1 1)], .lst [.int (P.nx 2 0), .int (P.nx 2 1)]]) (Ev.name rfl) (Ev.name rfl) (by omega) (by omega) (by rw [Int.toNat_natCast]; exact ix3 (fun s => D.lst [.int (P.nx s 0), .int (P.nx s 1)]) hs))
            (Ev.castI (Ev.mod (Ev.len W.K (Ev.name rfl) (by omega) (hr.deeper.le (by omega)) rfl (by rfl)) Ev.int (by decide)) (by rw [Int.fmod_eq_emod_of_nonneg _ (by decide)]; omega)) (by omega) (by omega) (by rw [Int.toNat_natCast]; exact ix2 (fun w => D.int (P.nx s w)) hx2)) (by omega) (by have := hP.nx s (t.length % 2); omega) (by rw [Int.toNat_natCast]; simp [hget])) (.inl rfl)) ?_
          cases en with
          | none => exact Ex.to (Ex.cons (Ex1.ite (c := false) (EvT.cmp (Ev.isNN (d := .none) (Ev.name rfl))) (fun h => nomatch h) (fun _ => Ex.nil)) Ex.nil) (.next (by repeat (first | exact trivial | refine And.intro rfl ?_)))
          | some f =>
            obtain ⟨fw, fs, ft, fg⟩ := f
            have hfg : fg.length ≤ M := hoke.2.2.2
            refine Ex.to (Ex.cons (Ex1.ite (c := true) (EvT.cmp (Ev.isNN (d := enD (some ⟨fw, fs, ft, fg⟩)) (Ev.name rfl))) (fun _ => Ex.cons (Ex1.assign (P := pd (enD (some ⟨fw, fs, ft, g ++ [Lg.name t] ++ fg⟩))) (Ev.castD (Ev.tuple (ds := [.int fw, .int fs, .str (mkS ft), .lst (g.map Lg.d ++ [.str (mkS t)] ++ fg.map Lg.d)]) (EvL.cons (Ev.ixT (l := [.int fw, .int fs, .str (mkS ft), .lst (fg.map Lg.d)]) (k := 0) (Ev.name rfl) Ev.int (by decide) (by decide) rfl) (EvL.cons (Ev.ixT (l := [.int fw, .int fs, .str (mkS ft), .lst (fg.map Lg.d)]) (k := 1) (Ev.name rfl) Ev.int (by decide) (by decide) rfl) (EvL.cons (Ev.ixT (l := [.int fw, .int fs, .str (mkS ft), .lst (fg.map Lg.d)]) (k := 2) (Ev.name rfl) Ev.int (by decide) (by decide) rfl) (EvL.cons (Ev.catL (Ev.catL (Ev.name rfl) (Ev.list (ds := [.str (mkS t)]) (EvL.cons (Ev.name rfl) EvL.nil)) ?_) (Ev.ixT (l := [.int fw, .int fs, .str (mkS ft), .lst (fg.map Lg.d)]) (k := 3) (Ev.name rfl) Ev.int (by decide) (by decide) rfl) ?_) EvL.nil))))) (by simp [enD, Lg.d])) (.inl rfl)) Ex.nil) (fun h => nomatch h)) Ex.nil) (.next (by repeat (first | exact trivial | refine And.intro rfl ?_)))
            · simp only [List.length_map, List.length_cons, List.length_nil]
              have := Nat.zero_le (n * (M + 1))
              omega
            · simp only [List.length_map, List.length_append, List.length_cons, List.length_nil]
              have := Nat.zero_le (n * (M + 1))
              omega
        rcases pushed_turns W P hP hr hh hs3 hst hsg n (x + 1) _ (N + 1 + M) hok' hN' with h | ⟨h1, h2⟩
        · exact .inl (Fo.next (Asg.name (.inl rfl)) step h)
        · exact .inr ⟨h1, Fo.next (Asg.name (.inl rfl)) step h2⟩
theorem fn_pushed (W : W1 B) (P : Par) (hP : P.Ok) {M N : Nat} {sign : List Nat} {stand : List (Option En)} (hs3 : stand.length = 3) (hst : ∀ e ∈ stand, okE 20 M e) (hsg : sign.length ≤ 1) {e : Option En} (he : okE 20 N e) (hN : N + 4 * (M + 1) ≤ sizeLine) :
    Fn B 1 (.ref 119) [pd (enD e), ptx sign, pd (.lst (stand.map enD)), pd P.nexts] (pd (enD (pu P sign stand 4 e))) := by
  refine Fn.intro (xs := [Str.ofString "entry", Str.ofString "sign", Str.ofString "stand", Str.ofString "nexts"]) (get_of W.K rfl rfl rfl rfl) ?_ rfl ?_
  · intro A h₀ hr hh hb
    rcases pushed_turns (h₀ := h₀) (μ := fun _ => none) W P hP hr hh hs3 hst hsg 4 0 e N he hN with h | ⟨h1, h2⟩
    · exact Ex.leave (Ex1.for (EvI.range (n := 4) (Ev.call (H := anyH) (Ev.bltK W.K rfl (by rfl) (by kernel_rfl) (by decide) (by decide)) (EvL.cons Ev.int EvL.nil) (fn_range1 4) (hr.deeper.le (by omega)) trivial) (by decide) (by decide)) (Fo.wk (by repeat (first | exact trivial | refine And.intro rfl ?_)) h))
    · rw [h1]
      exact Ex.cons (Ex1.for (EvI.range (n := 4) (Ev.call (H := anyH) (Ev.bltK W.K rfl (by rfl) (by kernel_rfl) (by decide) (by decide)) (EvL.cons Ev.int EvL.nil) (fn_range1 4) (hr.deeper.le (by omega)) trivial) (by decide) (by decide)) (Fo.wk (by repeat (first | exact trivial | refine And.intro rfl ?_)) h2)) (Ex.leave (Ex1.ret Ev.none))
  · exact bind4 fun a b c d => rfl
end Mine
open PySem PySem.W PyProof.Rows
set_option Elab.async false
set_option maxRecDepth 100000
set_option maxHeartbeats 1000000
set_option linter.unusedVariables false
set_option linter.unusedSimpArgs false
namespace Mine
variable {B : Bs}
theorem okE.le {T T' N N' : Nat} {e : Option En} (h : okE T N e) (hT : T ≤ T') (hN : N ≤ N') : okE T' N' e := by
  cases e with
  | none => trivial
  | some e => exact ⟨h.1, h.2.1, Nat.le_trans h.2.2.1 hT, Nat.le_trans h.2.2.2 hN⟩
theorem okE.pre {T N k : Nat} {e : Option En} {l : List Lg} (h : okE T N e) (hl : l.length ≤ k) : okE T (k + N) (e.map fun f => { f with g := l ++ f.g }) := by
  cases e with
  | none => trivial
  | some e => exact ⟨h.1, h.2.1, h.2.2.1, by have := h.2.2.2; simp only [List.length_append]; omega⟩
theorem getD_ok {l : List (Option En)} {T N i : Nat} (h : ∀ e ∈ l, okE T N e) : okE T N (l.getD i none) := by
  rw [List.getD_eq_getElem?_getD]
  cases q : l[i]? with
  | none => trivial
  | some e => exact h e (List.mem_of_getElem? q)
theorem pu_ok {P : Par} {sign : List Nat} {stand : List (Option En)} {T M : Nat} (hst : ∀ e ∈ stand, okE T M e) (hsg : sign.length ≤ 1) : ∀ (n : Nat) (e : Option En) (N : Nat), okE T N e → okE (T + 1) (N + (n - 1) * (M + 1)) (pu P sign stand n e)
  | 0, e, N, h => by cases e <;> trivial
  | n + 1, none, N, h => trivial
  | n + 1, some ⟨w, s, t, g⟩, N, h => by
    obtain ⟨h1, h2, h3, h4⟩ := h
    dsimp only at h1 h2 h3 h4
    unfold pu
    split
    · split
      · exact ⟨(by show 1 ≤ 2; decide), h2, Nat.le_succ_of_le h3, Nat.le_trans h4 (Nat.le_add_right _ _)⟩
      · exact ⟨Nat.zero_le _, h2, by simp only [List.length_append]; omega, Nat.le_trans h4 (Nat.le_add_right _ _)⟩
    · split
      · refine ⟨Nat.zero_le _, h2, ?_, Nat.le_trans h4 (Nat.le_add_right _ _)⟩
        dsimp only
        split
        · simp only [List.length_append, List.length_cons, List.length_nil]; omega
        · omega
      · cases n with
        | zero => unfold pu; trivial
        | succ n =>
          refine (pu_ok (P := P) hst hsg (n + 1) _ (N + 1 + M) (okE.pre (l := g ++ [Lg.name t]) (k := N + 1) (getD_ok hst) (by simp; omega))).le (Nat.le_refl _) ?_
          have e : (n + 1 + 1 - 1) * (M + 1) = n * (M + 1) + (M + 1) := Nat.succ_mul n (M + 1)
          rw [e]
          have : n + 1 - 1 = n := rfl
          rw [this]
          omega
theorem stA_ok {P : Par} (hP : P.Ok) {place T N : Nat} {last : Option (Nat × Nat)} {keeps : List (List (Option En))} (hk : ∀ r ∈ keeps, ∀ e ∈ r, okE T N e) : ∀ (n s : Nat) (log : List Lg), s < 3 → okE T (log.length + n + N) (stA P place last keeps n s log)
  | 0, _, _, _ => trivial
  | n + 1, s, log, hs => by
    unfold stA
    split
    · exact ⟨(by show 2 * P.dd s ≤ 2; omega), hs, Nat.zero_le _, by show log.length ≤ _; omega⟩
    · dsimp only
      split
      · refine okE.le (N := log.length + 1 + N) ((getD_ok (l := keeps.getD _ []) (i := P.nx s (nsx last)) ?_).pre (l := log ++ [lastL last]) (k := log.length + 1) (by simp)) (Nat.le_refl _) (by omega)
        intro e he
        rw [List.getD_eq_getElem?_getD] at he
        cases q : keeps[goalOf (P.dd s) last]? with
        | none => rw [q] at he; cases he
        | some r => rw [q] at he; exact hk r (List.mem_of_getElem? q) e he
      · have := stA_ok (place := place) (last := last) hP hk n (P.nx s (nsx last)) (log ++ [lastL last]) (hP.nx _ _)
        refine this.le (Nat.le_refl _) ?_
        simp; omega
theorem standOf_ok {P : Par} (hP : P.Ok) {place T N : Nat} {last : Option (Nat × Nat)} {keeps : List (List (Option En))} (hk : ∀ r ∈ keeps, ∀ e ∈ r, okE T N e) : ∀ e ∈ standOf P place last keeps, okE T (3 + N) e := by
  intro e he
  simp only [standOf, List.mem_cons, List.not_mem_nil, or_false] at he
  rcases he with rfl | rfl | rfl <;> (have := stA_ok (place := place) (last := last) hP hk 3; simpa using this _ [] (by decide))
noncomputable def bnd : Nat → Nat
  | 0 => 0
  | p + 1 => 4 * bnd p + 15
theorem bnd_mono {p q : Nat} (h : p ≤ q) : bnd p ≤ bnd q := by
  induction h with
  | refl => exact Nat.le_refl _
  | step _ ih => exact Nat.le_trans ih (by show bnd _ ≤ 4 * bnd _ + 15; omega)
/-- what is kept while one goes over the row -/
structure OS where
  keeps : List (List (Option En))
  last : Option (Nat × Nat)
  odd : Bool
  passed : List Nat
noncomputable def last1 (sign : List Nat) (place : Nat) (st : OS) : Option (Nat × Nat) := if st.passed = [35] ∧ sign ≠ [35] then some (place - 1, place - 1) else st.last
noncomputable def onceStep (P : Par) (sign : List Nat) (place : Nat) (st : OS) : OS where
  keeps := (st.keeps ++ [standOf P place (last1 sign place st) st.keeps]).map fun line => line.map (pu P sign (standOf P place (last1 sign place st) st.keeps) 4)
  odd := sign == [34] && !st.odd
  last := if (sign == [34] && !(sign == [34] && !st.odd)) = true then some (place - 1, place + 1) else last1 sign place st
  passed := sign
noncomputable def onceL (P : Par) : List Nat → Nat → OS → OS
  | [], place, st => onceStep P [] place st
  | c :: r, place, st => onceL P r (place + 1) (onceStep P [c] place st)
structure OS.Ok (p : Nat) (st : OS) : Prop where
  len : st.keeps.length = p
  ent : ∀ r ∈ st.keeps, r.length = 3 ∧ ∀ e ∈ r, okE p (bnd p) e
  pas : st.passed ≠ [] → 1 ≤ p
  odd : st.odd = true → 1 ≤ p
  last : ∀ i j, st.last = some (i, j) → i ≤ p ∧ j ≤ p
theorem OS.Ok.last1 {p : Nat} {st : OS} (h : st.Ok p) (sign : List Nat) : ∀ i j, last1 sign p st = some (i, j) → i ≤ p ∧ j ≤ p := by
  intro i j e
  unfold Mine.last1 at e
  split at e
  · cases e; omega
  · exact h.last i j e
theorem OS.Ok.step {P : Par} (hP : P.Ok) {p : Nat} {st : OS} (h : st.Ok p) {sign : List Nat} (hsg : sign.length ≤ 1) : (onceStep P sign p st).Ok (p + 1) where
  len := by simp [onceStep, h.len]
  ent := by
    have hk := fun r hr => (h.ent r hr).2
    have hs := standOf_ok (place := p) (last := Mine.last1 sign p st) hP hk
    intro r hr
    simp only [onceStep, List.mem_map] at hr
    obtain ⟨line, hl, rfl⟩ := hr
    have hline : line.length = 3 ∧ ∀ e ∈ line, okE p (3 + bnd p) e := by
      rcases List.mem_append.mp hl with q | q
      · exact ⟨(h.ent line q).1, fun e he => ((h.ent line q).2 e he).le (Nat.le_refl _) (by omega)⟩
      · simp only [List.mem_cons, List.not_mem_nil, or_false] at q
        subst q; exact ⟨rfl, hs⟩
    refine ⟨by rw [List.length_map]; exact hline.1, fun e he => ?_⟩
    obtain ⟨e₀, he₀, rfl⟩ := List.mem_map.mp he
    refine (pu_ok hs hsg 4 e₀ _ (hline.2 e₀ he₀)).le (Nat.le_refl _) ?_
    show 3 + bnd p + (4 - 1) * (3 + bnd p + 1) ≤ 4 * bnd p + 15
    omega
  pas := fun _ => Nat.succ_le_succ (Nat.zero_le _)
  odd := fun _ => Nat.succ_le_succ (Nat.zero_le _)
  last := by
    intro i j e
    simp only [onceStep] at e
    split at e
    · cases e; omega
    · have := h.last1 sign i j e; omega
noncomputable def lgD : Option (List Lg) → D
  | none => .none
  | some g => .lst (g.map Lg.d)
noncomputable def fin (e : Option En) : Option (List Lg) := e.map fun e => e.g ++ [Lg.name e.t]
noncomputable def onceR (P : Par) (l : List Nat) : List (List (Option (List Lg))) := (onceL P l 0 ⟨[], none, false, []⟩).keeps.map fun line => line.map fin
end Mine
open PySem PySem.W PyProof.Rows
set_option Elab.async false
set_option maxRecDepth 100000
set_option maxHeartbeats 1000000
set_option linter.unusedVariables false
set_option linter.unusedSimpArgs false
namespace Mine
variable {B : Bs}
theorem CompT.mapD {C : Cx B} {ρ : Rho B} {α : Type} {x : Str} {p : Pos} {elt : Expr} (l : List α) (f : α → D) (g : α → D) (hk : Sto C x) (h : ∀ a ∈ l, Ev C (upd ρ x (pd (f a))) (fun _ => none) elt (pd (g a))) (hx : ρ x = none := by rfl) : CompT C ρ (.Name x p) [] elt ((l.map f).map pd) (l.map g) := by
  rw [List.map_map]; exact CompT.map l (fun a => pd (f a)) g hk h hx
noncomputable abbrev kD (k : List (List (Option En))) : List D := k.map fun r => .lst (r.map enD)
noncomputable abbrev osL (P : Par) (l : List Nat) (st : OS) : List (String × Pd B) :=
  [("row", ptx l), ("deeds", pd P.deeds), ("nexts", pd P.nexts), ("keeps", pd (.lst (kD st.keeps))), ("last", pd (lastD st.last)), ("odd", pbool st.odd), ("passed", ptx st.passed)]
theorem once_body (W : W1 B) (P : Par) (hP : P.Ok) {A : Around} {h₀ : Heap} (hr : Room 3 A) (hh : A.handled = none) {μ : Mu B} {l : List Nat} {p : Nat} {st : OS} (hl : l.length ≤ 9) (hp : p ≤ l.length) (hst : st.Ok p) :
    Ex (C1 B A h₀ 124) (upd (al (osL P l st)) (Str.ofString "place") (pint (p : Int))) μ (inS (nthS (bodyOf (K1 B) 124) 1)) (.next (al (osL P l (onceStep P ((l.drop p).take 1) p st))) μ) := by
  generalize hsg : (l.drop p).take 1 = sign
  have hs1 : sign.length ≤ 1 := by rw [← hsg]; simp; omega
  have e1 : slc l (some (p : Int)) (some ((p : Int) + 1)) = sign := by
    rw [← hsg]; unfold slc; simp only [Option.elim]
    rw [show ((p : Int) + 1).toNat = p + 1 from by omega, show (p : Int).toNat = p from by omega, List.drop_take]
    congr 1; omega
  have hz : l.length ≤ sizeLine := Nat.le_trans hl (by decide)
  refine Ex.cons (Ex1.assign (P := ptx sign) (Ev.castS (Ev.slS (a := some (p : Int)) (b := some ((p : Int) + 1)) (Ev.name rfl) (Ev.name rfl) (Ev.add (Ev.name rfl) Ev.int) (by show (0 : Int) ≤ p; omega) (by show (0 : Int) ≤ p + 1; omega) hz) e1) (.inr ⟨rfl, rfl⟩)) ?_
  -- the hash's match
  refine Ex.cons (Ex1.ite (c := (st.passed == [35]) && (sign != [35])) (o := .next (al [("row", ptx l), ("deeds", pd P.deeds), ("nexts", pd P.nexts), ("keeps", pd (.lst (kD st.keeps))), ("last", pd (lastD (last1 sign p st))), ("odd", pbool st.odd), ("place", pint (p : Int)), ("sign", ptx sign)]) μ)
    (EvT.and2 (EvT.eqc (i := st.passed) (j := [35]) (Ev.name rfl) Ev.tx rfl) (fun _ => EvT.nec (i := sign) (j := [35]) (Ev.name rfl) Ev.tx rfl)) (fun h => ?_) (fun h => ?_)) ?_
  · simp only [Bool.and_eq_true, beq_iff_eq, bne_iff_ne, ne_eq] at h
    have hp1 := hst.pas (by rw [h.1]; simp)
    have e : last1 sign p st = some (p - 1, p - 1) := if_pos h
    rw [e]
    exact Ex.to (Ex.cons (Ex1.assign (P := pd (lastD (some (p - 1, p - 1)))) (Ev.castD (Ev.tuple (ds := [.int ((p : Int) - 1), .int ((p : Int) - 1)]) (EvL.cons (Ev.sub (Ev.name rfl) Ev.int) (EvL.cons (Ev.sub (Ev.name rfl) Ev.int) EvL.nil))) (by simp [lastD]; omega)) (.inl rfl)) Ex.nil) (.next (by repeat (first | exact trivial | refine And.intro rfl ?_)))
  · have e : last1 sign p st = st.last := if_neg fun q => by rw [q.1] at h; simp at h; exact q.2 h
    rw [e]
    exact Ex.to Ex.nil (.next (by repeat (first | exact trivial | refine And.intro rfl ?_)))
  generalize hl1 : last1 sign p st = lst1
  have hlast := hst.last1 sign
  rw [hl1] at hlast
  generalize hstand : standOf P p lst1 st.keeps = stand
  have hbp : bnd p ≤ bnd 9 := bnd_mono (by omega)
  have hb9 : bnd 9 = 1310715 := by decide
  have hsz : sizeLine = 16777216 := by decide
  have hk := fun r hr => (hst.ent r hr).2
  have hsok : ∀ e ∈ stand, okE 20 (3 + bnd p) e := fun e he => (standOf_ok hP hk e (hstand ▸ he)).le (by omega) (Nat.le_refl _)
  have hs3 : stand.length = 3 := by rw [← hstand]; rfl
  refine Ex.cons (Ex1.assign (P := pd (.lst (stand.map enD))) (hstand ▸ Ev.call (Ev.glob rfl (glob1 W.K rfl)) (EvL.cons (Ev.name rfl) (EvL.cons (Ev.name rfl) (EvL.cons (Ev.name rfl) (EvL.cons (Ev.name rfl) (EvL.cons (Ev.name rfl) EvL.nil))))) (fn_stand W P hP (N := bnd p) hst.len (fun r hr => ⟨(hst.ent r hr).1, fun e he => ((hst.ent r hr).2 e he).le (by omega) (Nat.le_refl _)⟩) (by omega) (by omega) (fun i j e => by have := hlast i j e; omega)) hr.deeper hh) (.inr ⟨rfl, rfl⟩)) ?_
  generalize hlines : st.keeps ++ [stand] = lines
  have hlines3 : ∀ r ∈ lines, r.length = 3 ∧ ∀ e ∈ r, okE 20 (3 + bnd p) e := by
    intro r hr
    rw [← hlines] at hr
    rcases List.mem_append.mp hr with q | q
    · exact ⟨(hst.ent r q).1, fun e he => ((hst.ent r q).2 e he).le (by omega) (by omega)⟩
    · simp only [List.mem_cons, List.not_mem_nil, or_false] at q
      subst q; exact ⟨hs3, hsok⟩
  have hll : lines.length ≤ 11 := by rw [← hlines]; simp [hst.len]; omega
  refine Ex.cons (Ex1.assignC (ds := lines.map fun r => .lst (r.map fun e => enD (pu P sign stand 4 e))) hh (EvI.list (ds := lines.map fun r => .lst (r.map enD)) (Ev.castD (Ev.catL (x := kD st.keeps) (y := [.lst (stand.map enD)]) (Ev.name rfl) (Ev.list (EvL.cons (Ev.name rfl) EvL.nil)) (by simp [hst.len]; omega)) (by rw [← hlines]; simp)))
    (fun L h₀ => CompT.mapD lines _ _ (.inl rfl) fun r hmem => ?_) (by simp; omega) (.inl rfl)) ?_
  · obtain ⟨hr3, hre⟩ := hlines3 r hmem
    refine Ev.comp (ds := r.map fun e => enD (pu P sign stand 4 e)) hh (EvI.list (ds := r.map enD) (Ev.name rfl)) (fun L' h₀' => CompT.mapD r _ _ (.inl rfl) fun e he => ?_) (by rw [List.length_map, List.length_map, hr3]; decide)
    exact Ev.call (Ev.glob rfl (glob1 W.K rfl)) (EvL.cons (Ev.name rfl) (EvL.cons (Ev.name rfl) (EvL.cons (Ev.name rfl) (EvL.cons (Ev.name rfl) EvL.nil)))) (fn_pushed W P hP hs3 hsok hs1 (hre e he) (by omega)) ((hr.deeper).le (by omega)) hh
  have hst' : (onceStep P sign p st).keeps = lines.map fun r => r.map (pu P sign stand 4) := by
    simp only [onceStep, hl1, hstand, hlines]
  have hkd : kD (onceStep P sign p st).keeps = lines.map fun r => .lst (r.map fun e => enD (pu P sign stand 4 e)) := by
    rw [hst']; simp [kD, List.map_map, Function.comp_def]
  refine Ex.cons (Ex1.assign (P := pbool (sign == [34] && !st.odd)) (Ev.and2 (Ev.eqc (i := sign) (j := [34]) (Ev.name rfl) Ev.tx rfl) (fun _ => Ev.not (Ev.name rfl))) (.inl rfl)) ?_
  generalize hodd : (sign == [34] && !st.odd) = odd'
  refine Ex.cons (Ex1.ite (c := (sign == [34]) && !odd') (o := .next (al [("row", ptx l), ("deeds", pd P.deeds), ("nexts", pd P.nexts), ("keeps", pd (.lst (kD (onceStep P sign p st).keeps))), ("last", pd (lastD (onceStep P sign p st).last)), ("odd", pbool odd'), ("sign", ptx sign)]) μ)
    (EvT.and2 (EvT.eqc (i := sign) (j := [34]) (Ev.name rfl) Ev.tx rfl) (fun _ => EvT.not (EvT.bool (Ev.name rfl)))) (fun h => ?_) (fun h => ?_)) ?_
  · have e : (onceStep P sign p st).last = some (p - 1, p + 1) := by simp only [onceStep, hodd]; rw [if_pos h]
    have hp1 : 1 ≤ p := by
      rw [← hodd] at h
      simp only [Bool.and_eq_true, beq_iff_eq, Bool.not_eq_true', Bool.and_eq_false_iff, beq_eq_false_iff_ne, ne_eq, Bool.not_eq_false'] at h
      rcases h.2 with q | q
      · exact absurd h.1 q
      · exact hst.odd q
    rw [e, hkd]
    exact Ex.to (Ex.cons (Ex1.assign (P := pd (lastD (some (p - 1, p + 1)))) (Ev.castD (Ev.tuple (ds := [.int ((p : Int) - 1), .int ((p : Int) + 1)]) (EvL.cons (Ev.sub (Ev.name rfl) Ev.int) (EvL.cons (Ev.add (Ev.name rfl) Ev.int) EvL.nil))) (by simp [lastD]; omega)) (.inl rfl)) Ex.nil) (.next (by repeat (first | exact trivial | refine And.intro rfl ?_)))
  · have e : (onceStep P sign p st).last = lst1 := by simp only [onceStep, hodd]; rw [if_neg (by rw [h]; decide), hl1]
    rw [e, hkd]
    exact Ex.to Ex.nil (.next (by repeat (first | exact trivial | refine And.intro rfl ?_)))
  refine Ex.to (Ex.cons (Ex1.assign (Ev.name rfl) (.inl rfl)) Ex.nil) (.next ?_)
  have ho : (onceStep P sign p st).odd = odd' := hodd
  have hpa : (onceStep P sign p st).passed = sign := rfl
  unfold osL
  rw [ho, hpa]
  repeat (first | exact trivial | refine And.intro rfl ?_)
theorem drop_next {l : List Nat} {p : Nat} (h : p < l.length) : ∃ c, l.drop p = c :: l.drop (p + 1) := ⟨l[p], by rw [List.drop_eq_getElem_cons h]⟩
theorem once_loop (W : W1 B) (P : Par) (hP : P.Ok) {A : Around} {h₀ : Heap} (hr : Room 3 A) (hh : A.handled = none) {μ : Mu B} {l : List Nat} (hl : l.length ≤ 9) : ∀ (n p : Nat) (st : OS), p + n = l.length → st.Ok p →
    Fo (C1 B A h₀ 124) (al (osL P l st)) μ (rints (p : Int) 1 (n + 1)) (tgtS (nthS (bodyOf (K1 B) 124) 1)) (inS (nthS (bodyOf (K1 B) 124) 1)) (.next (al (osL P l (onceL P (l.drop p) p st))) μ)
  | 0, p, st, hn, hst => by
    have e : l.drop p = [] := List.drop_of_length_le (by omega)
    have b := once_body (h₀ := h₀) (μ := μ) W P hP hr hh hl (by omega) hst
    rw [e] at b ⊢
    exact Fo.next (Asg.name (.inl rfl)) b (Fo.nil hh)
  | n + 1, p, st, hn, hst => by
    obtain ⟨c, e⟩ := drop_next (l := l) (p := p) (by omega)
    have b := once_body (h₀ := h₀) (μ := μ) W P hP hr hh hl (by omega) hst
    rw [e] at b ⊢
    have ih := once_loop (h₀ := h₀) (μ := μ) W P hP hr hh hl n (p + 1) (onceStep P [c] p st) (by omega) (hst.step hP (by simp))
    refine Fo.next (Asg.name (.inl rfl)) b ?_
    rw [show ((p : Int) + 1) = ((p + 1 : Nat) : Int) from by omega]
    exact ih
theorem onceL_ok {P : Par} (hP : P.Ok) : ∀ (r : List Nat) (p : Nat) (st : OS), st.Ok p → (onceL P r p st).Ok (p + r.length + 1)
  | [], p, st, h => h.step hP (Nat.zero_le _)
  | c :: r, p, st, h => by
    have := onceL_ok hP r (p + 1) _ (h.step hP (sign := [c]) (by simp))
    simp only [onceL, List.length_cons]
    rw [show p + (r.length + 1) + 1 = p + 1 + r.length + 1 from by omega]
    exact this
theorem os0 : (⟨[], none, false, []⟩ : OS).Ok 0 := ⟨rfl, fun r hr => (nomatch hr), fun h => absurd rfl h, fun h => (nomatch h), fun i j e => (nomatch e)⟩
theorem range_fits {x : Int} (h : -1000 ≤ x ∧ x ≤ 1000) : Builtin.Range.rangeFitsLong x = true := by
  unfold Builtin.Range.rangeFitsLong
  simp only [Bool.and_eq_true, decide_eq_true_eq]
  omega
theorem range_up {n : Nat} (h : n ≤ 100) : Builtin.Range.rangeSize 0 (n : Int) 1 = n := by
  unfold Builtin.Range.rangeSize
  simp only [show (1 : Int) > 0 from by decide, if_true]
  split <;> omega
theorem range_up_small {n : Nat} (h : n ≤ 100) : Builtin.Range.small 0 (n : Int) 1 = true := by
  unfold Builtin.Range.small
  rw [range_up h]
  simp only [Bool.and_eq_true, Bool.or_eq_true]
  simp (discharger := omega) [range_fits]
theorem range_len {n : Nat} (h : n ≤ 50) : Builtin.Range.small 0 ((n : Int) + 1) 1 = true ∧ Builtin.Range.rangeSize 0 ((n : Int) + 1) 1 = ((n + 1 : Nat) : Int) := by
  have e : (n : Int) + 1 = ((n + 1 : Nat) : Int) := by omega
  rw [e]
  exact ⟨range_up_small (by omega), range_up (by omega)⟩
noncomputable abbrev rD (r : List (List (Option (List Lg)))) : D := .lst (r.map fun line => .lst (line.map lgD))
theorem fn_once (W : W1 B) (P : Par) (hP : P.Ok) (l : List Nat) (hl : l.length ≤ 9) : Fn B 3 (.ref 124) [ptx l, pd P.deeds, pd P.nexts] (pd (rD (onceR P l))) := by
  refine Fn.intro (xs := [Str.ofString "row", Str.ofString "deeds", Str.ofString "nexts"]) (get_of W.K rfl rfl rfl rfl) ?_ rfl ?_
  · intro A h₀ hr hh hb
    refine Ex.cons (Ex1.assignT (Ev.tuple (ds := [.lst [], .none, .bool false, .str (mkS [])]) (EvL.cons (Ev.list (ds := []) EvL.nil) (EvL.cons Ev.none (EvL.cons Ev.bool (EvL.cons Ev.tx EvL.nil))))) (Asg.tuple hh (AsgL.cons (Asg.name (.inl rfl)) (AsgL.cons (Asg.name (.inl rfl)) (AsgL.cons (Asg.name (.inl rfl)) (AsgL.cons (Asg.name (.inl rfl)) AsgL.nil)))))) ?_
    have hl0 : (l.drop 0) = l := rfl
    refine Ex.cons (Ex1.for (EvI.range (n := l.length + 1) (Ev.call (H := anyH) (Ev.bltK W.K rfl (by rfl) (by kernel_rfl) (by decide) (by decide)) (EvL.cons (Ev.add (Ev.len W.K (Ev.name rfl) (by omega) (hr.deeper.le (by omega)) rfl (by rfl)) Ev.int) EvL.nil) (fn_range1 _) (hr.deeper.le (by omega)) trivial) (range_len (by omega)).1 (range_len (by omega)).2)
      (Fo.wk (by repeat (first | exact trivial | refine And.intro rfl ?_)) (once_loop W P hP hr hh hl l.length 0 ⟨[], none, false, []⟩ (by omega) os0))) ?_
    rw [hl0]
    have hok := onceL_ok hP l 0 _ os0
    generalize hS : onceL P l 0 ⟨[], none, false, []⟩ = S at hok
    have hR : onceR P l = S.keeps.map fun line => line.map fin := by unfold onceR; rw [hS]
    have hb9 : bnd (0 + l.length + 1) ≤ bnd 10 := bnd_mono (by omega)
    have hb10 : bnd 10 = 5242875 := by decide
    have hsz : sizeLine = 16777216 := by decide
    have hD : rD (onceR P l) = .lst (S.keeps.map fun line => .lst (line.map fun e => lgD (fin e))) := by
      rw [hR]; simp [rD, List.map_map, Function.comp_def]
    rw [hD]
    refine Ex.leave (Ex1.ret (Ev.comp hh (EvI.list (ds := kD S.keeps) (Ev.name rfl)) (fun L h₀ => CompT.mapD S.keeps _ _ (.inl rfl) fun line hline => ?_) (by simp [hok.len]; omega)))
    obtain ⟨h3, he⟩ := hok.ent line hline
    refine Ev.comp (ds := line.map fun e => lgD (fin e)) hh (EvI.list (ds := line.map enD) (Ev.name rfl)) (fun L' h₀' => CompT.mapD line _ _ (.inl rfl) fun e hmem => ?_) (by rw [List.length_map, List.length_map, h3]; decide)
    have hoke := he e hmem
    cases e with
    | none => exact Ev.ite (c := true) (EvT.cmp (Ev.isN (d := .none) (Ev.name rfl))) (fun _ => Ev.none) (fun h => nomatch h)
    | some e =>
      obtain ⟨w, s, t, g⟩ := e
      have hg : g.length ≤ bnd (0 + l.length + 1) := hoke.2.2.2
      refine Ev.ite (c := false) (EvT.cmp (Ev.isN (d := enD (some ⟨w, s, t, g⟩)) (Ev.name rfl))) (fun h => nomatch h) (fun _ => ?_)
      exact Ev.castD (Ev.catL (x := g.map Lg.d) (y := [.str (mkS t)]) (Ev.ixT (l := [.int w, .int s, .str (mkS t), .lst (g.map Lg.d)]) (k := 3) (Ev.name rfl) Ev.int (by decide) (by decide) rfl) (Ev.list (EvL.cons (Ev.ixT (l := [.int w, .int s, .str (mkS t), .lst (g.map Lg.d)]) (k := 2) (Ev.name rfl) Ev.int (by decide) (by decide) rfl) EvL.nil)) (by simp; omega)) (by simp [fin, lgD, Lg.d])
  · exact bind3 fun a b c => rfl
end Mine
open PySem PySem.W PyProof.Rows
set_option Elab.async false
set_option maxRecDepth 100000
set_option maxHeartbeats 1000000
set_option linter.unusedVariables false
set_option linter.unusedSimpArgs false
namespace Mine
/-- one step of a walker at p in the state s: what is told, which way, where to -/
noncomputable def stp (P : Par) (l : List Nat) (p s : Nat) : Lg × Nat × Nat :=
  if P.dd s < 2 then (.name (tl (P.dd s) (l.drop p)), (tl (P.dd s) (l.drop p)).length % 2, p + if opn (P.dd s) (l.drop p) then P.dd s + (tl (P.dd s) (l.drop p)).length + (tl (P.dd s) (l.drop p)).count 34 + 1 else 0)
  else match sr l p with
    | none => (.non, 0, 0)
    | some (i, j) => (.span i j, 1, gln (P.dd s) i j)
theorem stp_d (P : Par) (l : List Nat) (p s : Nat) : stepD l (P.dd s) p = .tup [(stp P l p s).1.d, .int (stp P l p s).2.1, .int (stp P l p s).2.2] := by
  unfold stepD stp
  by_cases h : P.dd s < 2
  · have h' : (P.dd s : Int) < 2 := by omega
    rw [if_pos h, if_pos h']
    simp only [Lg.d]
    congr 3
    split <;> simp
  · have h' : ¬ (P.dd s : Int) < 2 := by omega
    rw [if_neg h, if_neg h']
    cases sr l p with
    | none => rfl
    | some ij => obtain ⟨i, j⟩ := ij; simp only [Lg.d, gln_eq]; rfl
theorem stp_way (P : Par) (l : List Nat) (p s : Nat) : (stp P l p s).2.1 < 2 := by
  unfold stp
  split
  · exact Nat.mod_lt _ (by decide)
  · split
    · exact (by decide : 0 < 2)
    · exact (by decide : 1 < 2)
/-- a run of n steps that gets out -/
noncomputable def runF (P : Par) (l : List Nat) : Nat → Nat → Nat → Option (List Lg)
  | 0, _, _ => none
  | n + 1, p, s => if l.length < (stp P l p s).2.2 then some [(stp P l p s).1] else (runF P l n (stp P l p s).2.2 (P.nx s (stp P l p s).2.1)).map ((stp P l p s).1 :: ·)
theorem runF_mono {P : Par} {l : List Nat} : ∀ {n m p s : Nat} {g : List Lg}, runF P l n p s = some g → n ≤ m → runF P l m p s = some g
  | 0, _, _, _, _, h, _ => by simp [runF] at h
  | n + 1, 0, _, _, _, _, h => by omega
  | n + 1, m + 1, p, s, g, h, hm => by
    unfold runF at h ⊢
    split
    · rename_i q; rw [if_pos q] at h; exact h
    · rename_i q
      rw [if_neg q] at h
      obtain ⟨g', h1, h2⟩ := Option.map_eq_some_iff.mp h
      rw [runF_mono h1 (by omega)]; rw [Option.map_some, h2]
theorem runF_len {P : Par} {l : List Nat} : ∀ {n p s : Nat} {g : List Lg}, runF P l n p s = some g → g.length ≤ n
  | 0, _, _, _, h => by simp [runF] at h
  | n + 1, p, s, g, h => by
    unfold runF at h
    split at h
    · cases h; simp
    · obtain ⟨g', h1, rfl⟩ := Option.map_eq_some_iff.mp h
      have := runF_len h1; simp; omega
open Classical in
/-- all that a walker is told till he is out, if ever -/
noncomputable def run (P : Par) (l : List Nat) (p s : Nat) : Option (List Lg) := if h : ∃ n, (runF P l n p s).isSome = true then runF P l h.choose p s else none
theorem run_some {P : Par} {l : List Nat} {n p s : Nat} {g : List Lg} (h : runF P l n p s = some g) : run P l p s = some g := by
  have hx : ∃ n, (runF P l n p s).isSome = true := ⟨n, by rw [h]; rfl⟩
  unfold run
  rw [dif_pos hx]
  obtain ⟨g', hg'⟩ := Option.isSome_iff_exists.mp hx.choose_spec
  have h1 := runF_mono hg' (Nat.le_max_left _ n)
  have h2 := runF_mono h (Nat.le_max_right hx.choose n)
  rw [h1] at h2; rw [hg', h2]
theorem run_none {P : Par} {l : List Nat} {p s : Nat} (h : ∀ n, runF P l n p s = none) : run P l p s = none := by
  unfold run
  rw [dif_neg]
  rintro ⟨n, hn⟩
  rw [h n] at hn; cases hn
noncomputable abbrev Tab := List (List (Option (List Lg)))
noncomputable def runW (P : Par) (l : List Nat) : Tab := (List.range (l.length + 1)).map fun p => [run P l p 0, run P l p 1, run P l p 2]
noncomputable def cell (W : Tab) (p s : Nat) : Option (List Lg) := (W.getD p []).getD s none
noncomputable def later (P : Par) (l : List Nat) (W : Tab) (p s : Nat) : Option (List Lg) := if l.length < (stp P l p s).2.2 then some [] else cell W (stp P l p s).2.2 (P.nx s (stp P l p s).2.1)
noncomputable def setC (W : Tab) (p s : Nat) (g : List Lg) : Tab := W.set p ((W.getD p []).set s (some g))
noncomputable def cellStep (P : Par) (l : List Nat) (p s : Nat) (st : Tab × Bool) : Tab × Bool := match cell st.1 p s with
  | some _ => st
  | none => match later P l st.1 p s with
    | none => st
    | some lt => (setC st.1 p s ((stp P l p s).1 :: lt), true)
noncomputable def filled (W : Tab) : Nat := (W.map fun r => r.countP Option.isSome).sum
structure TOk (P : Par) (l : List Nat) (W : Tab) : Prop where
  len : W.length = l.length + 1
  row : ∀ r ∈ W, r.length = 3
  sound : ∀ p s g, cell W p s = some g → ∃ n, n ≤ filled W ∧ runF P l n p s = some g
theorem TOk.get {P : Par} {l : List Nat} {W : Tab} (h : TOk P l W) {p : Nat} (hp : p ≤ l.length) : W[p]? = some (W.getD p []) ∧ (W.getD p []).length = 3 := by
  have := getD_at (l := W) (i := p) [] (by rw [h.len]; omega)
  exact ⟨this, h.row _ (List.mem_of_getElem? this)⟩
theorem TOk.cell {P : Par} {l : List Nat} {W : Tab} (h : TOk P l W) {p s : Nat} (hp : p ≤ l.length) (hs : s < 3) : (W.getD p [])[s]? = some (cell W p s) := getD_at none (by rw [(h.get hp).2]; exact hs)
theorem filled_le {P : Par} {l : List Nat} {W : Tab} (h : TOk P l W) : filled W ≤ 3 * (l.length + 1) := by
  have : ∀ (W : Tab), (∀ r ∈ W, r.length = 3) → filled W ≤ 3 * W.length := by
    intro W
    induction W with
    | nil => intro _; simp [filled]
    | cons r W ih =>
      intro h
      have h1 := ih fun x hx => h x (List.mem_cons_of_mem _ hx)
      have h2 := List.countP_le_length (p := Option.isSome) (l := r)
      have h3 := h r List.mem_cons_self
      simp only [filled, List.map_cons, List.sum_cons, List.length_cons] at h1 ⊢
      omega
  have h1 := this W h.row
  rw [h.len] at h1; exact h1
theorem count_set : ∀ (r : List (Option (List Lg))) (s : Nat) (g : List Lg), r[s]? = some none → (r.set s (some g)).countP Option.isSome = r.countP Option.isSome + 1
  | [], _, _, h => by simp at h
  | x :: r, 0, g, h => by simp at h; subst h; simp
  | x :: r, s + 1, g, h => by
    have := count_set r s g (by simpa using h)
    simp only [List.set_cons_succ, List.countP_cons, this]; omega
theorem filled_set : ∀ (W : Tab) (p : Nat) (r r' : List (Option (List Lg))), W[p]? = some r → r'.countP Option.isSome = r.countP Option.isSome + 1 → filled (W.set p r') = filled W + 1
  | [], _, _, _, h, _ => by simp at h
  | x :: W, 0, r, r', h, hc => by simp at h; subst h; simp [filled, hc]; omega
  | x :: W, p + 1, r, r', h, hc => by
    have := filled_set W p r r' (by simpa using h) hc
    simp only [filled, List.set_cons_succ, List.map_cons, List.sum_cons] at this ⊢; omega
theorem cell_set {W : Tab} {p s p' s' : Nat} {g : List Lg} (hp : p < W.length) (hs : s < (W.getD p []).length) : cell (setC W p s g) p' s' = if p' = p ∧ s' = s then some g else cell W p' s' := by
  unfold cell setC
  simp only [List.getD_eq_getElem?_getD] at hs ⊢
  by_cases h : p' = p
  · subst h
    rw [List.getElem?_set_self hp, Option.getD_some]
    by_cases h2 : s' = s
    · subst h2; rw [if_pos ⟨rfl, rfl⟩, List.getElem?_set_self hs]; rfl
    · rw [if_neg fun q => h2 q.2, List.getElem?_set_ne fun q => h2 q.symm]
  · rw [if_neg fun q => h q.1, List.getElem?_set_ne fun q => h q.symm]
theorem TOk.step {P : Par} {l : List Nat} {W : Tab} (h : TOk P l W) {p s : Nat} {lt : List Lg} (hp : p ≤ l.length) (hs : s < 3) (hc : Mine.cell W p s = none) (hl : later P l W p s = some lt) :
    TOk P l (setC W p s ((stp P l p s).1 :: lt)) ∧ filled (setC W p s ((stp P l p s).1 :: lt)) = filled W + 1 := by
  have hg := h.get hp
  have hf : filled (setC W p s ((stp P l p s).1 :: lt)) = filled W + 1 := filled_set W p _ _ hg.1 (count_set _ _ _ (by rw [h.cell hp hs, hc]))
  refine ⟨⟨by simp [setC, h.len], fun r hr => ?_, fun p' s' g e => ?_⟩, hf⟩
  · rcases List.mem_or_eq_of_mem_set hr with q | q
    · exact h.row r q
    · rw [q, List.length_set]; exact hg.2
  · rw [cell_set (by rw [h.len]; omega) (by rw [hg.2]; exact hs)] at e
    rw [hf]
    split at e
    · rename_i q
      obtain ⟨rfl, rfl⟩ := q
      cases e
      unfold later at hl
      split at hl
      · rename_i q
        cases hl
        exact ⟨1, by omega, by simp [runF, q]⟩
      · rename_i q
        obtain ⟨n, hn, hr⟩ := h.sound _ _ _ hl
        exact ⟨n + 1, by omega, by simp [runF, q, hr]⟩
    · obtain ⟨n, hn, hr⟩ := h.sound _ _ _ e
      exact ⟨n, by omega, hr⟩
/-- the table does not grow any more: what is none is none for ever -/
theorem TOk.fix {P : Par} (hP : P.Ok) {l : List Nat} {W : Tab} (h : TOk P l W) (hfix : ∀ p s, p ≤ l.length → s < 3 → Mine.cell W p s = none → later P l W p s = none) : ∀ p s, p ≤ l.length → s < 3 → Mine.cell W p s = run P l p s := by
  intro p s hp hs
  cases e : Mine.cell W p s with
  | some g =>
    obtain ⟨n, _, hr⟩ := h.sound p s g e
    exact (run_some hr).symm
  | none =>
    refine (run_none fun n => ?_).symm
    induction n generalizing p s with
    | zero => rfl
    | succ n ih =>
      have hl := hfix p s hp hs e
      unfold later at hl
      split at hl
      · cases hl
      · rename_i q
        unfold runF
        rw [if_neg q, ih _ _ (by omega) (hP.nx _ _) hl]; rfl
theorem tab_ext {P : Par} {l : List Nat} {W : Tab} (h : TOk P l W) (hc : ∀ p s, p ≤ l.length → s < 3 → Mine.cell W p s = run P l p s) : W = runW P l := by
  apply List.ext_getElem?
  intro p
  unfold runW
  rcases Nat.lt_or_ge p (l.length + 1) with q | q
  · have hg := h.get (p := p) (by omega)
    rw [hg.1, List.getElem?_map, List.getElem?_range q, Option.map_some]
    congr 1
    apply List.ext_getElem?
    intro s
    rcases Nat.lt_or_ge s 3 with q2 | q2
    · rw [h.cell (by omega) q2, hc p s (by omega) q2]
      match s, q2 with
      | 0, _ | 1, _ | 2, _ => rfl
    · rw [List.getElem?_eq_none (by rw [hg.2]; exact q2), List.getElem?_eq_none (by simpa using q2)]
  · rw [List.getElem?_eq_none (by rw [h.len]; exact q), List.getElem?_eq_none (by simpa using q)]
end Mine
open PySem PySem.W PyProof.Rows
set_option Elab.async false
set_option maxRecDepth 100000
set_option maxHeartbeats 1000000
set_option linter.unusedVariables false
set_option linter.unusedSimpArgs false
namespace Mine
variable {B : Bs}
theorem mW_row {a b : Addr} {as : List Addr} {W : List (List D)} {i : Nat} (hn : as.Nodup) (ha : a ∉ as) (hi : as[i]? = some b) : mW (B := B) a as W b = some ((W.getD i []).map pd) := by
  have hb : b ∈ as := List.mem_of_getElem? hi
  have hilt : i < as.length := by
    rcases Nat.lt_or_ge i as.length with q | q
    · exact q
    · rw [List.getElem?_eq_none q] at hi; cases hi
  have hidx : as.idxOf b = i := by
    have : as[i] = b := by rw [List.getElem?_eq_getElem hilt] at hi; exact Option.some.inj hi
    rw [← this]; exact hn.idxOf_getElem i hilt
  have hbn : b ≠ a := fun q => ha (q ▸ hb)
  unfold mW; rw [if_neg hbn, if_pos hb, hidx]
noncomputable abbrev tabD (W : Tab) : List (List D) := W.map fun r => r.map lgD
theorem tabD_row {W : Tab} {p : Nat} {r : List (Option (List Lg))} (h : W[p]? = some r) : (tabD W).getD p [] = r.map lgD := by
  rw [List.getD_eq_getElem?_getD]; simp [tabD, h]
noncomputable def stepsD (P : Par) (l : List Nat) : D := .lst ((List.range (l.length + 1)).map fun p => .lst ([0, 1, 2].map fun s => stepD l (P.dd s) p))
noncomputable abbrev wkL (P : Par) (l : List Nat) (a : Addr) (fr : Bool) : List (String × Pd B) :=
  [("row", ptx l), ("nexts", pd P.nexts), ("steps", pd (stepsD P l)), ("walks", pv (.ref a)), ("fresh", pbool fr)]
noncomputable abbrev ifor : Stmt := .Pass ⟨0, 0, 0, 0⟩
theorem setC_D {W : Tab} {p s : Nat} {g : List Lg} {r : List (Option (List Lg))} (h : W[p]? = some r) : (tabD W).set p (((tabD W).getD p []).set s (lgD (some g))) = tabD (setC W p s g) := by
  unfold setC
  have h2 : W.getD p [] = r := by rw [List.getD_eq_getElem?_getD, h]; rfl
  rw [tabD_row h, h2]
  simp [tabD, List.map_set]
theorem cell_body (W1' : W1 B) (P : Par) (hP : P.Ok) {A : Around} {h₀ : Heap} (hr : Room 4 A) (hh : A.handled = none) {l : List Nat} (hl : l.length ≤ 9) {a : Addr} {as : List Addr} (hn : as.Nodup) (ha : a ∉ as) (has : as.length = l.length + 1) {W : Tab} {fr : Bool} {p s : Nat} (hW : TOk P l W) (hp : p ≤ l.length) (hs : s < 3) :
    Ex (C1 B A h₀ 105) (upd (al (wkL P l a fr ++ [("place", pint (p : Int))])) (Str.ofString "state") (pint (s : Int))) (mW a as (tabD W)) (inS (nthS (inS (nthS (inS (nthS (bodyOf (K1 B) 105) 4)) 1)) 0))
      (.next (al (wkL P l a (cellStep P l p s (W, fr)).2 ++ [("place", pint (p : Int))])) (mW a as (tabD (cellStep P l p s (W, fr)).1))) := by
  have hget : as[p]? = some as[p] := List.getElem?_eq_getElem (by omega)
  generalize hb : as[p] = b at hget
  have hrow := hW.get hp
  generalize hrr : W.getD p [] = r at hrow
  have hmu := mW_row (B := B) (W := tabD W) hn ha hget
  rw [tabD_row hrow.1] at hmu
  have hcell : r[s]? = some (cell W p s) := by have := hW.cell hp hs; rw [hrr] at this; exact this
  have hmua : mW (B := B) a as (tabD W) a = some (as.map fun x => pv (.ref x)) := if_pos rfl
  unfold cellStep
  dsimp only
  cases hc : cell W p s with
  | some g =>
    rw [hc] at hcell
    dsimp only
    refine Ex.to (Ex.cons (Ex1.ite (c := false) (EvT.cmp (Ev.isN (d := lgD (some g)) (Ev.ixOwn (a := b) (k := (s : Int)) (Ev.ixOwn (a := a) (k := (p : Int)) (Ev.name rfl) (Ev.name rfl) hmua (by omega) (by omega) (by rw [Int.toNat_natCast]; simp [hget])) (Ev.name rfl) hmu (by omega) (by omega) (by rw [Int.toNat_natCast]; simp [hcell])))) (fun h => nomatch h) (fun _ => Ex.nil)) Ex.nil) (.next (by repeat (first | exact trivial | refine And.intro rfl ?_)))
  | none =>
    rw [hc] at hcell
    dsimp only
    have hsp : stepD l (P.dd s) p = .tup [(stp P l p s).1.d, .int (stp P l p s).2.1, .int (stp P l p s).2.2] := stp_d P l p s
    have hw2 := stp_way P l p s
    have hlt : later P l W p s = if l.length < (stp P l p s).2.2 then some [] else cell W (stp P l p s).2.2 (P.nx s (stp P l p s).2.1) := rfl
    generalize hst : stp P l p s = tg at hsp hw2 hlt
    obtain ⟨t, w, g⟩ := tg
    dsimp only at hsp hw2 hlt ⊢
    have hlen : ∀ lt, later P l W p s = some lt → lt.length ≤ 40 := fun lt q => by
      rw [hlt] at q
      split at q
      · cases q; simp
      · obtain ⟨n, hn', hr'⟩ := hW.sound _ _ _ q
        have := filled_le hW
        have := runF_len hr'
        omega
    have hstep2 : ((List.range (l.length + 1)).map fun p => D.lst ([0, 1, 2].map fun s => stepD l (P.dd s) p))[p]? = some (.lst ([0, 1, 2].map fun s => stepD l (P.dd s) p)) := by
      rw [List.getElem?_map, List.getElem?_range (by omega)]; rfl
    have hstep3 : ([0, 1, 2].map fun s => stepD l (P.dd s) p)[s]? = some (.tup [t.d, .int w, .int g]) := by
      rw [← hsp]; exact ix3 (fun s => stepD l (P.dd s) p) hs
    generalize hla : later P l W p s = la at hlt hlen
    -- the walk up to the last test
    have walk : ∀ {o : Out B}, Ex (C1 B A h₀ 105) (al (wkL P l a fr ++ [("place", pint (p : Int)), ("state", pint (s : Int)), ("told", pd t.d), ("later", pd (lgD la))])) (mW a as (tabD W)) [nthS (inS (nthS (inS (nthS (inS (nthS (inS (nthS (bodyOf (K1 B) 105) 4)) 1)) 0)) 0)) 2] o →
        Ex (C1 B A h₀ 105) (upd (al (wkL P l a fr ++ [("place", pint (p : Int))])) (Str.ofString "state") (pint (s : Int))) (mW a as (tabD W)) (inS (nthS (inS (nthS (inS (nthS (inS (nthS (bodyOf (K1 B) 105) 4)) 1)) 0)) 0)) o := fun {o} k => by
      refine Ex.cons (Ex1.assignT (P := pd (.tup [t.d, .int w, .int g])) (Ev.ixL (k := (s : Int)) (Ev.ixL (k := (p : Int)) (Ev.name rfl) (Ev.name rfl) (by omega) (by omega) (by rw [Int.toNat_natCast]; exact hstep2)) (Ev.name rfl) (by omega) (by omega) (by rw [Int.toNat_natCast]; exact hstep3)) (Asg.tuple hh (AsgL.cons (Asg.name (.inl rfl)) (AsgL.cons (Asg.name (.inl rfl)) (AsgL.cons (Asg.name (.inl rfl)) AsgL.nil))))) ?_
      refine Ex.cons (Ex1.assign (P := pd (lgD la)) (Ev.ite (c := decide (l.length < g)) (EvT.ic (Ev.name rfl) (Ev.len W1'.K (Ev.name rfl) (by omega) (hr.deeper.le (by omega)) rfl (by rfl)) (by simp [cmpI])) (fun h => ?_) (fun h => ?_)) (.inl rfl)) ?_
      · rw [hlt, if_pos (of_decide_eq_true h)]; exact Ev.list (ds := []) EvL.nil
      · have hng := of_decide_eq_false h
        rw [hlt, if_neg hng]
        have hget' : as[g]? = some as[g] := List.getElem?_eq_getElem (by omega)
        have hrow' := hW.get (p := g) (by omega)
        have hmu' := mW_row (B := B) (W := tabD W) hn ha hget'
        rw [tabD_row hrow'.1] at hmu'
        have hcell' := hW.cell (p := g) (s := P.nx s w) (by omega) (hP.nx _ _)
        refine Ev.ixOwn (a := as[g]) (k := (P.nx s w : Nat)) (Ev.ixOwn (a := a) (k := (g : Int)) (Ev.name rfl) (Ev.name rfl) hmua (by omega) (by omega) (by rw [Int.toNat_natCast]; simp [hget']))
          (Ev.ixL (l := [.int (P.nx s 0), .int (P.nx s 1)]) (k := (w : Int)) (d := .int (P.nx s w)) (Ev.ixL (l := [.lst [.int (P.nx 0 0), .int (P.nx 0 1)], .lst [.int (P.nx 1 0), .int (P.nx 1 1)], .lst [.int (P.nx 2 0), .int (P.nx 2 1)]]) (Ev.name rfl) (Ev.name rfl) (by omega) (by omega) (by rw [Int.toNat_natCast]; exact ix3 (fun s => D.lst [.int (P.nx s 0), .int (P.nx s 1)]) hs)) (Ev.name rfl) (by omega) (by omega) (by rw [Int.toNat_natCast]; exact ix2 (fun w => D.int (P.nx s w)) hw2)) hmu' (by omega) (by have := hP.nx s w; omega) (by rw [Int.toNat_natCast, List.getElem?_map, List.getElem?_map, hcell']; rfl)
      refine Ex.wk ?_ k
      repeat (first | exact trivial | refine And.intro rfl ?_)
    cases la with
    | none =>
      refine Ex.to (Ex.cons (Ex1.ite (c := true) (EvT.cmp (Ev.isN (d := lgD none) (Ev.ixOwn (a := b) (k := (s : Int)) (Ev.ixOwn (a := a) (k := (p : Int)) (Ev.name rfl) (Ev.name rfl) hmua (by omega) (by omega) (by rw [Int.toNat_natCast]; simp [hget])) (Ev.name rfl) hmu (by omega) (by omega) (by rw [Int.toNat_natCast]; simp [hcell])))) (fun _ => walk (Ex.cons (Ex1.ite (c := false) (EvT.cmp (Ev.isNN (d := lgD none) (Ev.name rfl))) (fun h => nomatch h) (fun _ => Ex.nil)) Ex.nil)) (fun h => nomatch h)) Ex.nil) (.next (by repeat (first | exact trivial | refine And.intro rfl ?_)))
    | some lt =>
      have hlt40 := hlen lt rfl
      refine Ex.to (Ex.cons (Ex1.ite (c := true) (EvT.cmp (Ev.isN (d := lgD none) (Ev.ixOwn (a := b) (k := (s : Int)) (Ev.ixOwn (a := a) (k := (p : Int)) (Ev.name rfl) (Ev.name rfl) hmua (by omega) (by omega) (by rw [Int.toNat_natCast]; simp [hget])) (Ev.name rfl) hmu (by omega) (by omega) (by rw [Int.toNat_natCast]; simp [hcell])))) (fun _ => walk (Ex.cons (Ex1.ite (c := true) (EvT.cmp (Ev.isNN (d := lgD (some lt)) (Ev.name rfl))) (fun _ => ?_) (fun h => nomatch h)) Ex.nil)) (fun h => nomatch h)) Ex.nil) (.next (ρ := al (wkL P l a true ++ [("place", pint (p : Int))])) (by repeat (first | exact trivial | refine And.intro rfl ?_)))
      have hset := mW_set (B := B) (W := tabD W) (k := s) (d := lgD (some (t :: lt))) hn ha (by simp [tabD, hW.len, has]) hget
      rw [setC_D hrow.1] at hset
      have hPs : ((r.map lgD).map (pd (B := B))) = ((tabD W).getD p []).map pd := by rw [tabD_row hrow.1]
      rw [← hset]
      refine Ex.cons (Ex1.setIx (a := b) (k := (s : Int)) (Ps := ((tabD W).getD p []).map pd) (P := pd (lgD (some (t :: lt)))) (Ev.castD (Ev.catL (x := [t.d]) (y := lt.map Lg.d) (Ev.list (EvL.cons (Ev.name rfl) EvL.nil)) (Ev.name rfl) (by simp [sizeLine]; omega)) (by simp [lgD])) (Ev.ixOwn (a := a) (k := (p : Int)) (Ev.name rfl) (Ev.name rfl) hmua (by omega) (by omega) (by rw [Int.toNat_natCast]; simp [hget])) (Ev.name rfl) (hPs ▸ hmu) (by omega) (by omega) (by rw [Int.toNat_natCast, ← hPs]; simp; have := hrow.2; omega)) ?_
      rw [Int.toNat_natCast]
      exact Ex.to (Ex.cons (Ex1.assign Ev.bool (.inl rfl)) Ex.nil) (.next (by repeat (first | exact trivial | refine And.intro rfl ?_)))
end Mine
open PySem PySem.W PyProof.Rows
set_option Elab.async false
set_option maxRecDepth 100000
set_option maxHeartbeats 1000000
set_option linter.unusedVariables false
set_option linter.unusedSimpArgs false
namespace Mine
variable {B : Bs}
noncomputable def swS (P : Par) (l : List Nat) (p : Nat) : Nat → Nat → Tab × Bool → Tab × Bool
  | 0, _, st => st
  | n + 1, s, st => swS P l p n (s + 1) (cellStep P l p s st)
noncomputable def swP (P : Par) (l : List Nat) : Nat → Tab × Bool → Tab × Bool
  | 0, st => st
  | n + 1, st => swP P l n (swS P l n 3 0 st)
/-- from W and fr to W' and fr', some cells looked at -/
structure Swept (P : Par) (l : List Nat) (st st' : Tab × Bool) (K : Nat → Nat → Prop) : Prop where
  ok : TOk P l st'.1
  up : filled st.1 ≤ filled st'.1
  yes : st'.2 = true → st.2 = true ∨ filled st.1 < filled st'.1
  no : st'.2 = false → st.2 = false ∧ st'.1 = st.1 ∧ ∀ p s, K p s → Mine.cell st.1 p s = none → later P l st.1 p s = none
theorem Swept.trans {P : Par} {l : List Nat} {a b c : Tab × Bool} {K K' : Nat → Nat → Prop} (x : Swept P l a b K) (y : Swept P l b c K') : Swept P l a c (fun p s => K p s ∨ K' p s) where
  ok := y.ok
  up := Nat.le_trans x.up y.up
  yes := fun h => by
    rcases y.yes h with q | q
    · rcases x.yes q with q | q
      · exact .inl q
      · have := y.up; exact .inr (by omega)
    · have := x.up; exact .inr (by omega)
  no := fun h => by
    obtain ⟨h1, h2, h3⟩ := y.no h
    obtain ⟨g1, g2, g3⟩ := x.no h1
    refine ⟨g1, h2.trans g2, fun p s hk => ?_⟩
    rcases hk with hk | hk
    · exact g3 p s hk
    · have := h3 p s hk; rw [g2] at this; exact this
theorem Swept.weak {P : Par} {l : List Nat} {a b : Tab × Bool} {K K' : Nat → Nat → Prop} (x : Swept P l a b K) (h : ∀ p s, K' p s → K p s) : Swept P l a b K' := ⟨x.ok, x.up, x.yes, fun q => let ⟨a, b, c⟩ := x.no q; ⟨a, b, fun p s hk => c p s (h p s hk)⟩⟩
theorem swept_cell {P : Par} {l : List Nat} {W : Tab} {fr : Bool} {p s : Nat} (h : TOk P l W) (hp : p ≤ l.length) (hs : s < 3) : Swept P l (W, fr) (cellStep P l p s (W, fr)) (fun p' s' => p' = p ∧ s' = s) := by
  unfold cellStep
  dsimp only
  cases hc : Mine.cell W p s with
  | some g => exact ⟨h, Nat.le_refl _, fun q => .inl q, fun q => ⟨q, rfl, fun p' s' ⟨h1, h2⟩ e => by subst h1; subst h2; dsimp only at e; rw [hc] at e; cases e⟩⟩
  | none =>
    dsimp only
    cases hl : later P l W p s with
    | none => exact ⟨h, Nat.le_refl _, fun q => .inl q, fun q => ⟨q, rfl, fun p' s' ⟨h1, h2⟩ e => by subst h1; subst h2; exact hl⟩⟩
    | some lt =>
      obtain ⟨h1, h2⟩ := h.step hp hs hc hl
      exact ⟨h1, by show filled W ≤ filled (setC _ _ _ _); omega, fun _ => .inr (by show filled W < filled (setC _ _ _ _); omega), fun q => nomatch q⟩
theorem swept_S {P : Par} {l : List Nat} {p : Nat} (hp : p ≤ l.length) : ∀ (n s : Nat) (st : Tab × Bool), TOk P l st.1 → s + n = 3 → Swept P l st (swS P l p n s st) (fun p' s' => p' = p ∧ s ≤ s' ∧ s' < 3)
  | 0, s, st, h, hs => ⟨h, Nat.le_refl _, fun q => .inl q, fun q => ⟨q, rfl, fun p' s' ⟨_, h1, h2⟩ => by omega⟩⟩
  | n + 1, s, (W, fr), h, hs => by
    have x := swept_cell (fr := fr) h hp (show s < 3 by omega)
    have y := swept_S hp n (s + 1) _ x.ok (by omega)
    exact (x.trans y).weak fun p' s' ⟨h1, h2, h3⟩ => by
      rcases Nat.eq_or_lt_of_le h2 with q | q
      · exact .inl ⟨h1, q.symm⟩
      · exact .inr ⟨h1, q, h3⟩
theorem swept_P {P : Par} {l : List Nat} : ∀ (n : Nat) (st : Tab × Bool), TOk P l st.1 → n ≤ l.length + 1 → Swept P l st (swP P l n st) (fun p' s' => p' < n ∧ s' < 3)
  | 0, st, h, hn => ⟨h, Nat.le_refl _, fun q => .inl q, fun q => ⟨q, rfl, fun p' s' ⟨h1, h2⟩ => by omega⟩⟩
  | n + 1, st, h, hn => by
    have x := swept_S (p := n) (by omega) 3 0 st h rfl
    have y := swept_P n _ x.ok (by omega)
    exact (x.trans y).weak fun p' s' ⟨h1, h2⟩ => by
      rcases Nat.eq_or_lt_of_le (Nat.le_of_lt_succ h1) with q | q
      · exact .inl ⟨q, Nat.zero_le _, h2⟩
      · exact .inr ⟨q, h2⟩
theorem states_loop (W1' : W1 B) (P : Par) (hP : P.Ok) {A : Around} {h₀ : Heap} (hr : Room 4 A) (hh : A.handled = none) {l : List Nat} (hl : l.length ≤ 9) {a : Addr} {as : List Addr} (hn : as.Nodup) (ha : a ∉ as) (has : as.length = l.length + 1) {p : Nat} (hp : p ≤ l.length) :
    ∀ (n s : Nat) (st : Tab × Bool), TOk P l st.1 → s + n = 3 →
    Fo (C1 B A h₀ 105) (al (wkL P l a st.2 ++ [("place", pint (p : Int))])) (mW a as (tabD st.1)) (rints (s : Int) 1 n) (tgtS (nthS (inS (nthS (inS (nthS (bodyOf (K1 B) 105) 4)) 1)) 0)) (inS (nthS (inS (nthS (inS (nthS (bodyOf (K1 B) 105) 4)) 1)) 0))
      (.next (al (wkL P l a (swS P l p n s st).2 ++ [("place", pint (p : Int))])) (mW a as (tabD (swS P l p n s st).1)))
  | 0, s, st, h, hs => Fo.to (Fo.nil hh) (.next (by repeat (first | exact trivial | refine And.intro rfl ?_)))
  | n + 1, s, (W, fr), h, hs => by
    have b := cell_body (h₀ := h₀) (fr := fr) W1' P hP hr hh hl hn ha has h hp (show s < 3 by omega)
    have x := swept_cell (fr := fr) h hp (show s < 3 by omega)
    have ih := states_loop (h₀ := h₀) W1' P hP hr hh hl hn ha has hp n (s + 1) _ x.ok (by omega)
    refine Fo.next (Asg.name (.inl rfl)) b ?_
    rw [show ((s : Int) + 1) = ((s + 1 : Nat) : Int) from by omega]
    exact ih
theorem places_loop (W1' : W1 B) (P : Par) (hP : P.Ok) {A : Around} {h₀ : Heap} (hr : Room 4 A) (hh : A.handled = none) {l : List Nat} (hl : l.length ≤ 9) {a : Addr} {as : List Addr} (hn : as.Nodup) (ha : a ∉ as) (has : as.length = l.length + 1) :
    ∀ (n : Nat) (st : Tab × Bool), TOk P l st.1 → n ≤ l.length + 1 →
    Fo (C1 B A h₀ 105) (al (wkL P l a st.2)) (mW a as (tabD st.1)) (rints ((n : Int) - 1) (-1) n) (tgtS (nthS (inS (nthS (bodyOf (K1 B) 105) 4)) 1)) (inS (nthS (inS (nthS (bodyOf (K1 B) 105) 4)) 1))
      (.next (al (wkL P l a (swP P l n st).2)) (mW a as (tabD (swP P l n st).1)))
  | 0, st, h, hn' => Fo.to (Fo.nil hh) (.next (by repeat (first | exact trivial | refine And.intro rfl ?_)))
  | n + 1, st, h, hn' => by
    have b := states_loop (h₀ := h₀) W1' P hP hr hh hl hn ha has (p := n) (by omega) 3 0 st h rfl
    have x := swept_S (p := n) (by omega) 3 0 st h rfl
    have ih := places_loop (h₀ := h₀) W1' P hP hr hh hl hn ha has n _ x.ok (by omega)
    rw [show (((n + 1 : Nat) : Int) - 1) = (n : Int) from by omega]
    refine Fo.next (Asg.name (.inl rfl)) (Ex.to (Ex.cons (Ex1.for (EvI.range (n := 3) (Ev.call (H := anyH) (Ev.bltK W1'.K rfl (by rfl) (by kernel_rfl) (by decide) (by decide)) (EvL.cons Ev.int EvL.nil) (fn_range1 3) (hr.deeper.le (by omega)) trivial) (by decide) (by decide)) (Fo.wk (by repeat (first | exact trivial | refine And.intro rfl ?_)) b)) Ex.nil) (.next (l := wkL P l a (swS P l n 3 0 st).2) (by repeat (first | exact trivial | refine And.intro rfl ?_)))) ?_
    exact ih
end Mine
open PySem PySem.W PyProof.Rows
set_option Elab.async false
set_option maxRecDepth 100000
set_option maxHeartbeats 1000000
set_option linter.unusedVariables false
set_option linter.unusedSimpArgs false
namespace Mine
variable {B : Bs}
theorem range_down {n : Nat} : Builtin.Range.rangeSize (n : Int) (-1) (-1) = ((n + 1 : Nat) : Int) := by
  unfold Builtin.Range.rangeSize
  rw [if_neg (by decide), if_pos (by omega)]
  simp
theorem range_down_small {n : Nat} (h : n ≤ 100) : Builtin.Range.small (n : Int) (-1) (-1) = true := by
  unfold Builtin.Range.small
  rw [range_down]
  simp only [Bool.and_eq_true, Bool.or_eq_true]
  refine ⟨⟨⟨⟨range_fits (by omega), range_fits (by omega)⟩, range_fits (by omega)⟩, range_fits (by omega)⟩, .inr (range_fits (by omega))⟩
theorem rints_up : ∀ (n : Nat) (x : Int), rints (B := B) x 1 n = (List.range n).map fun (k : Nat) => pint (x + (k : Int))
  | 0, x => rfl
  | n + 1, x => by
    rw [rints, rints_up n, List.range_succ_eq_map, List.map_cons, List.map_map]
    congr 1
    · simp
    · apply List.map_congr_left
      intro k _
      simp only [Function.comp]
      congr 1
      omega
theorem walks_while (W1' : W1 B) (P : Par) (hP : P.Ok) {A : Around} {h₀ : Heap} (hr : Room 4 A) (hh : A.handled = none) {l : List Nat} (hl : l.length ≤ 9) {a : Addr} {as : List Addr} (hn : as.Nodup) (ha : a ∉ as) (has : as.length = l.length + 1) {tst : Expr} {bd : List Stmt} :
    ∀ (k : Nat) (W : Tab), TOk P l W → 3 * (l.length + 1) - filled W < k →
    Wh (C1 B A h₀ 105) (al (wkL P l a true)) (mW a as (tabD W)) (partsS (nthS (bodyOf (K1 B) 105) 4)).2.1 (inS (nthS (bodyOf (K1 B) 105) 4)) (.next (al (wkL P l a false)) (mW a as (tabD (runW P l)))) := by
  intro k
  induction k with
  | zero => intro W h hk; omega
  | succ k ih =>
    intro W h hk
    have x := swept_P (l.length + 1) (W, false) h (Nat.le_refl _)
    have b := places_loop (h₀ := h₀) W1' P hP hr hh hl hn ha has (l.length + 1) (W, false) h (Nat.le_refl _)
    have body : Ex (C1 B A h₀ 105) (al (wkL P l a true)) (mW a as (tabD W)) (inS (nthS (bodyOf (K1 B) 105) 4)) (.next (al (wkL P l a (swP P l (l.length + 1) (W, false)).2)) (mW a as (tabD (swP P l (l.length + 1) (W, false)).1))) := by
      refine Ex.cons (Ex1.assign Ev.bool (.inl rfl)) ?_
      rw [show (((l.length + 1 : Nat) : Int) - 1) = (l.length : Int) from by omega] at b
      refine Ex.to (Ex.cons (Ex1.for (EvI.range (a := (l.length : Int)) (c := -1) (n := l.length + 1) (Ev.call (H := anyH) (Ev.bltK W1'.K rfl (by rfl) (by kernel_rfl) (by decide) (by decide)) (EvL.cons (Ev.len W1'.K (Ev.name rfl) (by omega) (hr.deeper.le (by omega)) rfl (by rfl)) (EvL.cons (Ev.neg Ev.int) (EvL.cons (Ev.neg Ev.int) EvL.nil))) (fn_range3 _ _ _ (by decide) (by decide)) (hr.deeper.le (by omega)) trivial) (range_down_small (by omega)) range_down) (Fo.wk (by repeat (first | exact trivial | refine And.intro rfl ?_)) b)) Ex.nil) (.next (by repeat (first | exact trivial | refine And.intro rfl ?_)))
    have hfix : ∀ st' : Tab × Bool, Swept P l (W, false) st' (fun p' s' => p' < l.length + 1 ∧ s' < 3) → st'.2 = false → st'.1 = runW P l := fun st' x q => by
      obtain ⟨_, h2, h3⟩ := x.no q
      have h2' : st'.1 = W := h2
      rw [h2']
      exact tab_ext h (TOk.fix hP h fun p s hp hs hc => h3 p s ⟨by omega, hs⟩ hc)
    generalize hst : swP P l (l.length + 1) (W, false) = st' at x body
    obtain ⟨W', fr'⟩ := st'
    dsimp only at body
    have hle := filled_le x.ok
    dsimp only at hle
    cases fr' with
    | false =>
      have e : W' = runW P l := hfix _ x rfl
      rw [e] at body
      exact Wh.turn (EvT.bool (Ev.name rfl)) body (Wh.stop (EvT.bool (Ev.name rfl)))
    | true =>
      have hup : filled W < filled W' := by
        rcases x.yes rfl with q | q
        · cases q
        · exact q
      exact Wh.turn (EvT.bool (Ev.name rfl)) body (ih W' x.ok (by omega))
noncomputable def tab0 (n : Nat) : Tab := List.replicate n [none, none, none]
theorem tab0_ok (P : Par) (l : List Nat) : TOk P l (tab0 (l.length + 1)) where
  len := by simp [tab0]
  row := fun r hr => by rw [(List.mem_replicate.mp hr).2]; rfl
  sound := fun p s g e => by
    exfalso
    unfold Mine.cell tab0 at e
    rw [List.getD_eq_getElem?_getD, List.getD_eq_getElem?_getD, List.getElem?_replicate] at e
    split at e
    · match s with
      | 0 | 1 | 2 => simp at e
      | s + 3 => simp at e
    · simp at e
theorem CompF.all {C : Cx B} {ρ : Rho B} {x : Str} {p : Pos} {elt : Expr} (hk : Sto C x) (he : ∀ P, EvN C (upd ρ x P) (fun _ => none) elt [pnone, pnone, pnone]) (hx : ρ x = none := by rfl) : ∀ Ps, CompF C ρ (.Name x p) elt Ps
  | [] => .nil
  | P :: Ps => .cons (.name hk) (upd_sub hx) (he P) (CompF.all hk he hx Ps)
theorem rints_len : ∀ (n : Nat) (x c : Int), (rints (B := B) x c n).length = n
  | 0, _, _ => rfl
  | n + 1, x, c => by rw [rints, List.length_cons, rints_len n]
theorem fn_walks (W : W1 B) (P : Par) (hP : P.Ok) (l : List Nat) (hl : l.length ≤ 9) : Fn B 4 (.ref 105) [ptx l, pd P.deeds, pd P.nexts] (pd (rD (runW P l))) := by
  refine Fn.intro (xs := [Str.ofString "row", Str.ofString "deeds", Str.ofString "nexts"]) (get_of W.K rfl rfl rfl rfl) ?_ rfl ?_
  · intro A h₀ hr hh hb
    refine Ex.cons (Ex1.assign (Ev.call (Ev.glob rfl (glob1 W.K rfl)) EvL.nil (fn_prog W) (hr.deeper.le (by omega)) hh) (.inr ⟨rfl, rfl⟩)) ?_
    refine Ex.cons (Ex1.assignC (ds := (List.range (l.length + 1)).map fun p => .lst ([0, 1, 2].map fun s => stepD l (P.dd s) p)) hh (EvI.range (a := 0) (c := 1) (n := l.length + 1) (Ev.call (H := anyH) (Ev.bltK W.K rfl (by rfl) (by kernel_rfl) (by decide) (by decide)) (EvL.cons (Ev.add (Ev.len W.K (Ev.name rfl) (by omega) (hr.deeper.le (by omega)) rfl (by rfl)) Ev.int) EvL.nil) (fn_range1 _) (hr.deeper.le (by omega)) trivial) (range_len (by omega)).1 (range_len (by omega)).2)
      (fun L h₀ => rints_up (B := B) (l.length + 1) 0 ▸ CompT.map (List.range (l.length + 1)) (fun (k : Nat) => pint (0 + (k : Int))) _ (.inr ⟨rfl, rfl⟩) fun k hk => ?_) (by rw [rints_len]; simp [sizeLine]; omega) (.inl rfl)) ?_
    · have hk' : k < l.length + 1 := List.mem_range.mp hk
      refine Ev.comp (ds := [0, 1, 2].map fun s => stepD l (P.dd s) k) hh (EvI.list (ds := [0, 1, 2].map fun s => .int (P.dd s)) (Ev.name rfl)) (fun L' h₀' => CompT.mapD [0, 1, 2] _ _ (.inl rfl) fun s hs => ?_) (by show 3 ≤ sizeLine; decide)
      exact Ev.call (Ev.glob rfl (glob1 W.K rfl)) (EvL.cons (Ev.name rfl) (EvL.cons (Ev.name rfl) (EvL.cons (Ev.name rfl) (EvL.cons (Ev.castI (j := (k : Int)) (Ev.name rfl) (by omega)) EvL.nil)))) (fn_step W l (P.dd s) k (by omega) ⟨by omega, by have := hP.dd s; omega⟩ (by omega)) hr.deeper hh
    refine Ex.ownComp hh (EvI.range (a := 0) (c := 1) (n := l.length + 1) (Ev.call (H := anyH) (Ev.bltK W.K rfl (by rfl) (by kernel_rfl) (by decide) (by decide)) (EvL.cons (Ev.add (Ev.len W.K (Ev.name rfl) (by omega) (hr.deeper.le (by omega)) rfl (by rfl)) Ev.int) EvL.nil) (fn_range1 _) (hr.deeper.le (by omega)) trivial) (range_len (by omega)).1 (range_len (by omega)).2)
      (fun L h₀ => CompF.all (.inl rfl) (fun Q => EvN.list (EvL.cons Ev.none (EvL.cons Ev.none (EvL.cons Ev.none EvL.nil))) (by show 3 ≤ sizeLine; decide)) rfl _) (by rw [rints_len]; simp [sizeLine]; omega) (.inl rfl) fun a as has hn ha => ?_
    rw [rints_len] at has ⊢
    have e0 : List.replicate (l.length + 1) [D.none, D.none, D.none] = tabD (tab0 (l.length + 1)) := by simp [tabD, tab0, lgD]
    rw [e0]
    refine Ex.cons (Ex1.assign Ev.bool (.inl rfl)) ?_
    refine Ex.cons (Ex1.while (Wh.wk (l := wkL P l a true) (by repeat (first | exact trivial | refine And.intro rfl ?_)) (walks_while (tst := .Constant .none 0 ⟨0, 0, 0, 0⟩) (bd := []) W P hP hr hh hl hn ha has (3 * (l.length + 1) + 1) (tab0 (l.length + 1)) (tab0_ok P l) (by omega)))) ?_
    have hD : rD (runW P l) = .lst ((tabD (runW P l)).map .lst) := by simp [rD, tabD, List.map_map, Function.comp_def]
    rw [hD]
    exact Ex.leave (Ex1.retOwn2 (Ev.name rfl) hn ha (by simp [tabD, runW, has]))
  · exact bind3 fun a b c => rfl
end Mine
open PySem PySem.W PyProof.Rows
set_option Elab.async false
set_option maxRecDepth 100000
set_option maxHeartbeats 1000000
set_option linter.unusedVariables false
set_option linter.unusedSimpArgs false
namespace Mine
variable {B : Bs}
theorem dig_ok : ∀ n : Nat, n < 1000 → n ≠ 257 → 1 ≤ ((toString (n : Int) : Str)).cps.toList.length ∧ ((toString (n : Int) : Str)).cps.toList.length ≤ 3 ∧ (((toString (n : Int) : Str)).cps.toList ++ [32, 34]).take 3 ≠ [50, 53, 55] := by decide +kernel
theorem three_digits : ∀ n : Nat, n < 1000 → n ≠ 257 → ∃ q : List Nat, (toString (n : Int) : Str) = mkS q ∧ q.length ≤ 3 ∧ ∀ l : List Nat, slc (q ++ [32, 34] ++ l) none (some 3) ≠ [50, 53, 55] := by
  intro n h1 h2
  obtain ⟨a, b, c⟩ := dig_ok n h1 h2
  refine ⟨((toString (n : Int) : Str)).cps.toList, ?_, b, fun l => ?_⟩
  · show _ = (⟨((toString (n : Int) : Str)).cps.toList.toArray⟩ : Str)
    rw [Array.toArray_toList]
  · generalize ((toString (n : Int) : Str)).cps.toList = q at a b c
    have : slc (q ++ [32, 34] ++ l) none (some 3) = (q ++ [32, 34]).take 3 := by
      show ((q ++ [32, 34] ++ l).take 3).drop 0 = _
      rw [List.drop_zero, List.take_append_of_le_length (by simp; omega)]
    rw [this]; exact c
noncomputable def parOf (c : Int) : Par where
  dd s := if s = 0 then 0 else if s = 1 then (c.fmod 5).toNat else ((c.fdiv 5).fmod 5).toNat
  nx s w := ((((if w = 0 then c.fdiv 25 else c.fdiv 75)).fdiv (3 ^ (2 * s))).fmod 3).toNat
theorem parOf_ok (c : Int) : (parOf c).Ok where
  dd s := by
    have h1 : (c.fmod 5).toNat ≤ 4 := by rw [Int.fmod_eq_emod_of_nonneg _ (by decide)]; omega
    have h2 : ((c.fdiv 5).fmod 5).toNat ≤ 4 := by rw [Int.fmod_eq_emod_of_nonneg _ (by decide)]; omega
    show (if s = 0 then 0 else if s = 1 then (c.fmod 5).toNat else ((c.fdiv 5).fmod 5).toNat) ≤ 4
    split
    · omega
    · split <;> assumption
  nx s w := by
    show ((((if w = 0 then c.fdiv 25 else c.fdiv 75)).fdiv (3 ^ (2 * s))).fmod 3).toNat < 3
    rw [Int.fmod_eq_emod_of_nonneg _ (by decide)]; omega
theorem parOf_deeds (c : Int) : (parOf c).deeds = .lst [.int 0, .int (c.fmod 5), .int ((c.fdiv 5).fmod 5)] := by
  have h1 : 0 ≤ c.fmod 5 := by rw [Int.fmod_eq_emod_of_nonneg _ (by decide)]; omega
  have h2 : 0 ≤ (c.fdiv 5).fmod 5 := by rw [Int.fmod_eq_emod_of_nonneg _ (by decide)]; omega
  show D.lst [.int ((0 : Nat) : Int), .int ((c.fmod 5).toNat : Int), .int (((c.fdiv 5).fmod 5).toNat : Int)] = _
  rw [Int.toNat_of_nonneg h1, Int.toNat_of_nonneg h2]; rfl
theorem parOf_nexts (c : Int) : (parOf c).nexts = .lst [nx c 0, nx c 2, nx c 4] := by
  have h : ∀ x : Int, (((x.fmod 3).toNat : Nat) : Int) = x.fmod 3 := fun x => Int.toNat_of_nonneg (by rw [Int.fmod_eq_emod_of_nonneg _ (by decide)]; omega)
  unfold Par.nexts nx parOf
  dsimp only
  rw [h, h, h, h, h, h]
  rfl
theorem flat1 {α β : Type} (f : α → β) : ∀ l : List α, (l.map fun x => [f x]).flatten = l.map f
  | [] => rfl
  | a :: l => by simp only [List.map_cons, List.flatten_cons, flat1 f l]; rfl
theorem deps_le {k : Nat} : ∀ {l : List D}, (∀ d ∈ l, dep d ≤ k) → deps l ≤ k
  | [], _ => Nat.zero_le _
  | d :: l, h => by
    have h1 := h d List.mem_cons_self
    have h2 := deps_le fun x hx => h x (List.mem_cons_of_mem _ hx)
    simp only [deps]; omega
theorem dep_lg (g : Lg) : dep g.d ≤ 1 := by cases g <;> simp [Lg.d, dep, deps]
theorem deps_rD (r : Tab) : deps (r.map fun line => .lst (line.map lgD)) ≤ 4 := by
  refine deps_le fun d hd => ?_
  obtain ⟨line, _, rfl⟩ := List.mem_map.mp hd
  simp only [dep]
  refine Nat.succ_le_succ (deps_le fun d hd => ?_)
  obtain ⟨g, _, rfl⟩ := List.mem_map.mp hd
  cases g with
  | none => simp [lgD, dep]
  | some g =>
    simp only [lgD, dep]
    refine Nat.succ_le_succ (Nat.le_succ_of_le (deps_le fun d hd => ?_))
    obtain ⟨x, _, rfl⟩ := List.mem_map.mp hd
    exact dep_lg x
theorem fm9 (c : Int) : 0 ≤ c.fmod 999 ∧ c.fmod 999 < 999 := by
  rw [Int.fmod_eq_emod_of_nonneg _ (by decide)]
  exact ⟨Int.emod_nonneg _ (by decide), Int.emod_lt_of_pos _ (by decide)⟩
theorem fm10 (x : Int) : x.fmod 1000 = ((x % 1000).toNat : Int) := by
  rw [Int.fmod_eq_emod_of_nonneg _ (by decide)]
  exact (Int.toNat_of_nonneg (Int.emod_nonneg _ (by decide))).symm
theorem dg1 (x : Int) : (x % 1000).toNat < 1000 := by omega
theorem dg2 {y : Int} (h0 : 0 ≤ y) (h1 : y < 999) : ((258 + y) % 1000).toNat ≠ 257 := by omega
theorem fn_law (W : W1 B) (ns : List Int) (hns : ns.length ≤ 63) (plain : ∀ P l, P.Ok → l.length ≤ 9 → onceR P l = runW P l) : Fn B 5 (.ref 129) [pscr ns] (pbool true) := by
  refine Fn.intro (xs := [Str.ofString "script"]) (get_of W.K rfl rfl rfl rfl) ?_ rfl ?_
  · intro A h₀ hr hh hb
    generalize hnum : (if ns = [] then [0, 3, 2, 4, 1, 11] else ns.take 9) = nums
    have hn9 : nums.length ≤ 9 := by rw [← hnum]; split <;> simp; omega
    refine Ex.cons (Ex1.assign (P := pd (.lst (nums.map .int))) (Ev.ite (c := !ns.isEmpty) (EvT.cmp (Ev.neNilI (Ev.name rfl) (Ev.list (ds := []) EvL.nil) (hr.deeper.le (by omega)))) (fun h => ?_) (fun h => ?_)) (.inl rfl)) ?_
    · have hne : ns ≠ [] := by intro q; subst q; simp at h
      rw [if_neg hne] at hnum
      subst hnum
      exact Ev.castD (Ev.slI (a := Option.none) (b := some ((9 : Nat) : Int)) (Ev.name rfl) trivial Ev.int trivial (by show (0 : Int) ≤ 9; decide) (Nat.le_trans hns (by decide))) (by simp [slc, List.map_take])
    · have he : ns = [] := by cases ns with
        | nil => rfl
        | cons _ _ => simp at h
      rw [if_pos he] at hnum
      subst hnum
      exact Ev.list (ds := [.int 0, .int 3, .int 2, .int 4, .int 1, .int 11]) (EvL.cons Ev.int (EvL.cons Ev.int (EvL.cons Ev.int (EvL.cons Ev.int (EvL.cons Ev.int (EvL.cons Ev.int EvL.nil))))))
    generalize hrow : nums.map sgn = l
    have hl9 : l.length ≤ 9 := by rw [← hrow]; simpa using hn9
    have hflat : (nums.map fun x => [sgn x]).flatten = l := by rw [← hrow, flat1]
    refine Ex.cons (Ex1.assign (P := ptx l) (Ev.castS (Ev.meth (P := ptx []) (Ps := [pd (.lst ((nums.map fun x => [sgn x]).map fun l => .str (mkS l)))]) Ev.tx (fun F s v h => by obtain ⟨t, rfl⟩ := str_of h; exact ⟨typeIs_str s _ _, fun _ e => nomatch e⟩)
      (EvL.cons (Ev.castD (Ev.comp (ds := nums.map fun x => .str (mkS [sgn x])) hh (EvI.list (ds := nums.map .int) (Ev.name rfl)) (fun L h₀ => CompT.mapD nums _ _ (.inl rfl) fun x hx => Ev.call (Ev.glob rfl (glob1 W.K rfl)) (EvL.cons (Ev.name rfl) EvL.nil) (fn_sign W x) (hr.deeper.le (by omega)) hh) (by simp; exact Nat.le_trans hn9 (by decide))) (by simp)) EvL.nil)
      (fn_join (H := anyH) (nums.map fun x => [sgn x]) (fun l hl => by obtain ⟨x, _, rfl⟩ := List.mem_map.mp hl; simp) (by simp; omega)) (hr.deeper.le (by omega)) trivial PySem.F.plainAttrs_str PySem.F.slot_str_join PySem.F.type_str_join) hflat) (.inr ⟨rfl, rfl⟩)) ?_
    generalize hc : 7362 + nums.sum = c
    refine Ex.cons (Ex1.assign (P := pint c) (Ev.castI (Ev.add Ev.int (Ev.call (Ev.bltK W.K rfl (by rfl) (by kernel_rfl) (by decide) (by decide)) (EvL.cons (Ev.name rfl) EvL.nil) (fn_sum nums) (hr.deeper.le (by omega)) hh)) hc) (.inl rfl)) ?_
    have hf2 := fm10 (258 + c.fmod 999)
    have hn1 := dg1 (258 + c.fmod 999)
    have hn2 := dg2 (fm9 c).1 (fm9 c).2
    generalize hn : ((258 + c.fmod 999) % 1000).toNat = n at hf2 hn1 hn2
    obtain ⟨q, hq1, hq2, hq3⟩ := three_digits n hn1 hn2
    refine Ex.cons (Ex1.assign (P := ptx q) (Ev.cast (Ev.call (H := anyH) (Ev.bltK W.K rfl (by rfl) (by kernel_rfl) (by decide) (by decide)) (EvL.cons (Ev.castI (Ev.mod (Ev.add Ev.int (Ev.mod (Ev.name rfl) Ev.int (by decide))) Ev.int (by decide)) hf2) EvL.nil) (fn_strI (n : Int) ?_) (hr.deeper.le (by omega)) trivial) (by rw [hq1])) (.inr ⟨rfl, rfl⟩)) ?_
    · have : ((n : Int).natAbs).log2 ≤ n := by rw [Int.natAbs_natCast]; exact Nat.log2_le_self n
      omega
    refine Ex.cons (Ex1.ite (c := false) (EvT.cmp (Ev.neNil (x := []) (Ev.castD (Ev.comp (ds := ((List.range (l.length + 1)).filter fun _ => false).map fun (k : Nat) => .int (0 + (k : Int))) hh (EvI.range (a := 0) (c := 1) (n := l.length + 1) (Ev.call (H := anyH) (Ev.bltK W.K rfl (by rfl) (by kernel_rfl) (by decide) (by decide)) (EvL.cons (Ev.add (Ev.len W.K (Ev.name rfl) (by omega) (hr.deeper.le (by omega)) rfl (by rfl)) Ev.int) EvL.nil) (fn_range1 _) (hr.deeper.le (by omega)) trivial) (range_len (by omega)).1 (range_len (by omega)).2)
      (fun L h₀ => rints_up (B := B) (l.length + 1) 0 ▸ CompT.filter (List.range (l.length + 1)) (fun (k : Nat) => pint (0 + (k : Int))) _ (fun _ => false) (.inl rfl) (fun k hk => ?_) (fun k hk q => nomatch q)) (by rw [rints_len]; simp [sizeLine]; omega)) (by simp)) (Ev.list (ds := []) EvL.nil) (hr.deeper.le (by omega)))) (fun h => nomatch h) (fun _ => Ex.nil)) ?_
    · have hk' : k < l.length + 1 := List.mem_range.mp hk
      exact EvT.not (b := true) (EvT.bool (Ev.call (Ev.glob rfl (glob1 W.K rfl)) (EvL.cons (Ev.catS (Ev.catS (Ev.name rfl) Ev.tx (by simp; omega)) (Ev.castS (Ev.slS (a := some (k : Int)) (b := Option.none) (Ev.name rfl) (Ev.castI (Ev.name rfl) (by omega)) trivial (by show (0 : Int) ≤ k; omega) trivial (Nat.le_trans hl9 (by decide))) slc_from) (by simp; omega)) EvL.nil) (fn_refused W.K (q ++ [32, 34] ++ l.drop k) (hq3 _) (by simp; omega)) (hr.deeper.le (by omega)) hh))
    refine Ex.cons (Ex1.assign (P := pd (parOf c).deeds) (Ev.castD (Ev.call (Ev.glob rfl (glob1 W.K rfl)) (EvL.cons (Ev.name rfl) EvL.nil) (fn_deeds W.K c) (hr.deeper.le (by omega)) hh) (parOf_deeds c).symm) (.inl rfl)) ?_
    refine Ex.cons (Ex1.assign (P := pd (parOf c).nexts) (Ev.castD (Ev.call (Ev.glob rfl (glob1 W.K rfl)) (EvL.cons (Ev.name rfl) EvL.nil) (fn_nexts W.K c) (hr.deeper.le (by omega)) hh) (parOf_nexts c).symm) (.inl rfl)) ?_
    refine Ex.leave (Ex1.ret (Ev.eqL (x := (runW (parOf c) l).map fun line => .lst (line.map lgD)) (Ev.call (Ev.glob rfl (glob1 W.K rfl)) (EvL.cons (Ev.name rfl) (EvL.cons (Ev.name rfl) (EvL.cons (Ev.name rfl) EvL.nil))) (fn_walks W _ (parOf_ok c) l hl9) hr.deeper hh)
      (Ev.castD (Ev.call (Ev.glob rfl (glob1 W.K rfl)) (EvL.cons (Ev.name rfl) (EvL.cons (Ev.name rfl) (EvL.cons (Ev.name rfl) EvL.nil))) (fn_once W _ (parOf_ok c) l hl9) (hr.deeper.le (by omega)) hh) (by rw [plain _ l (parOf_ok c) hl9])) ?_))
    have h1 := deps_rD (runW (parOf c) l)
    have h2 : A.units + 3 + 10 * 4 ≤ 9000 := hr.deeper (env := callEnv (fdOf (K1 B) 129) h₀.objs.size 129) |>.units
    have h9 : cLine = 9900 := rfl
    show A.units + 3 + _ + 1 < cLine
    omega
  · exact bind1 fun a => rfl
end Mine
open PySem PySem.W PyProof.Rows
set_option Elab.async false
set_option maxRecDepth 100000
set_option maxHeartbeats 1000000
set_option linter.unusedVariables false
set_option linter.unusedSimpArgs false
namespace Mine
theorem hide_get {h : Heap} {a b : Addr} {o : Obj} (e : h.get? b = some o) (hb : b ≠ a) : (h.hide a).get? b = some o := by rw [Heap.hide_ne _ hb]; exact e
theorem ns_hide {h : Heap} {a b : Addr} {m : Str → Option Value} (x : h.Ns b m) (hb : b ≠ a) : (h.hide a).Ns b m :=
  let ⟨o, es, ep, e, r⟩ := x; ⟨o, es, ep, hide_get e hb, r⟩
theorem join1 (plain : ∀ P l, P.Ok → l.length ≤ 9 → onceR P l = runW P l) {p : Program} {lo : List Str} {mean : ExcName → Option Value} {prog : Program} {w : World} {s : Shared} {mg mb : Str → Option Value}
    (T : Top p lo mean mg mb s.heap) (KX : (KK w.params).In s.heap) (h74 : s.heap.get? 74 = some (tabObj #[])) {fa l : Addr} {vs : List Value} {ns : List Int} (hmg : mg (Str.ofString "law") = some (.ref fa)) (hL : s.heap.IsList l vs.toArray) (hI : IntsAre vs ns) (hn : ns.length ≤ 63) :
    wpAny (model prog w) callerA (call (.ref fa) [.ref l] []) (fun v s' => v = .bool true ∧ OldK s.heap s'.heap ∧ s'.os = s.os ∧ s'.gens = s.gens) noE s := by
  obtain ⟨bm, ob, hb1, hb2, hb3, hb4, hb5, hb6⟩ := T.bmain
  have hbm : bm ≠ 74 := by rintro rfl; rw [h74] at hb3; cases hb3; cases hb4
  have KH : (KK w.params).In (s.heap.hide 74) := fun a o e => hide_get (KX a o e) (by
    rintro rfl
    have : (KK w.params).lookup 74 = none := by kernel_rfl
    rw [this] at e; cases e)
  obtain ⟨nl, nl1, nl2⟩ := T.nolimit
  obtain ⟨nd, nd1, nd2⟩ := T.nodigits
  let B : Bs := { prog, w, hb := s.heap.hide 74, mg, mb, P0 := 74, N0 := s.heap.objs.size, qual := q1, g := ns_hide T.g (by decide), b := ns_hide T.b (by decide), nolimit := ⟨nl, ns_hide nl1 (by decide), nl2⟩, hbl := T.builtins, nodigits := ⟨nd, ns_hide nd1 (by decide), nd2⟩, hP0 := Heap.hide_self _ _, hN0 := Nat.le_of_eq (Heap.hide_size _ _), bmain := ⟨bm, ob, hb1, hb2, hide_get hb3 hbm, hb4, hb5, hb6⟩ }
  have W : W1 B := ⟨KH, rfl, rfl⟩
  have hfa : fa = 129 := by
    have h1 : B.mg (Str.ofString "law") = some (.ref 129) := glob1 KH (by rfl)
    have h2 : (some (Value.ref 129)) = some (Value.ref fa) := h1.symm.trans hmg
    cases h2; rfl
  subst hfa
  have hBase : Base B s.heap := ⟨fun b o e => Heap.of_hide e, GoodTab.empty h74 1, Nat.le_refl _⟩
  have hF := (fn_law W ns hn plain).call none' callerA s [.ref l] ⟨by decide, by decide, rfl, ⟨_, rfl⟩⟩ rfl ⟨[], rfl, fun _ q => nomatch q⟩ hBase (fun _ q => q.elim) ⟨⟨l, vs, rfl, fun q => q, hL, hI⟩, trivial⟩
  refine wpMono hF fun v s' ⟨⟨pr, r⟩, hv⟩ => ⟨?_, ?_, r.os, r.gens⟩
  · obtain ⟨t, rfl⟩ := bool_of hv; rfl
  · have main : ∀ b o, s.heap.get? b = some o → asItWas s.heap s'.heap b o := by
      intro b o e
      by_cases hb : b = 74
      · subst hb
        rw [h74] at e
        cases e
        obtain ⟨ps, g1, _⟩ := pr.tab 1 74 (GoodTab.empty h74 1)
        refine .inr (.inl ⟨?_, rfl, #[], ps, rfl, ?_⟩)
        · have hc : CodeHd s.heap 78 74 := codeHd_of_K KX (by kernel_rfl)
          obtain ⟨o, vs, _, _, _, _, _, _, _, e, ec, d, g, _⟩ := hc
          exact ⟨78, o, vs, e, ec, d, g⟩
        · rw [g1]; simp [tabObj]
      · refine .inl (pr.obj b o e (.inl fun q => q) (.inr fun q => ?_))
        rcases q with q | q
        · exact hb q
        · exact absurd (Heap.lt_size e) (Nat.not_lt.mpr q)
    refine ⟨main, fun b o e => ?_⟩
    rcases main b o e with q | ⟨_, _, _, _, _, q⟩ | ⟨_, _, ⟨_, _, _, q, _⟩, _⟩
    · exact ⟨_, q⟩
    · exact ⟨_, q⟩
    · exact ⟨_, q⟩
end Mine
open PySem PySem.W PyProof.Rows
set_option Elab.async false
set_option maxRecDepth 100000
set_option maxHeartbeats 8000000
set_option linter.unusedVariables false
namespace Mine
theorem good1 {cl : Str → Option Addr} {mean : ExcName → Option Value} {ns : List Int} {s₁ s' : Shared} (hK : OldK s₁.heap s'.heap) (hos : s'.os = s₁.os) (hge : s'.gens = s₁.gens) (hg : s₁.gens = #[]) :
    GoodWG Challenge.rw_ph0023_01.row.claim cl mean [ofPy (.list (ns.map .int))] s₁ (.ok (.ret (.bool true))) s' := by
  refine ⟨.inl ⟨_, .bool true, [], rfl, fun _ => rfl, .bool _, ?_, fun _ => ⟨.nil, fun _ q => by cases q⟩⟩, hK, hos, AllBare.of_eq (hge.trans hg)⟩
  first | rfl | (show Challenge.rw_ph0023_01.row.claim.post [_] _ _ = true; wrow_post) | wrow_post | (simp [Challenge.rw_ph0023_01, ClaimW.post, PostW]; done) | trace_state
end Mine
open PySem PySem.W PyProof.Rows
set_option Elab.async false
set_option maxRecDepth 100000
set_option linter.unusedVariables false
set_option linter.unusedSimpArgs false
namespace Mine
/-! the last match before a place, told by one who goes over the row once -/
theorem pm1 {p : Nat} (h : 1 ≤ p) : p - 1 + 1 = p := Nat.sub_add_cancel h
theorem pm2 {p : Nat} (h : 1 ≤ p) : p - 1 + 2 = p + 1 := by omega
theorem ex_succ {a n : Nat} (h : a < n) : ∃ m, n = m + 1 := ⟨n - 1, by omega⟩
theorem sb1 {L p n : Nat} (h : L - (p - 1) < n) : L - p < n := Nat.lt_of_le_of_lt (Nat.sub_le_sub_left (Nat.sub_le p 1) L) h
theorem sb2 {L p m : Nat} (h1 : 1 ≤ p) (hp : p ≤ L) (h : L - (p - 1) < m + 1) : L - p < m := by omega
theorem sb3 {L p m : Nat} (h : L - p < m) : L - (p + 1) < m := Nat.lt_of_le_of_lt (Nat.sub_le_sub_left (Nat.le_succ p) L) h
theorem sb5 {p col : Nat} (h1 : 1 ≤ p) (h : p ≤ col) : p - 1 < col := Nat.lt_of_lt_of_le (Nat.sub_lt h1 Nat.one_pos) h
theorem sb6 {p col : Nat} (h1 : 1 ≤ p) (h : p + 1 ≤ col) : p - 1 + 2 ≤ col := by rw [pm2 h1]; exact h
theorem sb7 {p i : Nat} (h1 : 1 ≤ p) (a : p - 1 ≤ i) (b : i < p) : i = p - 1 := by omega
theorem sb8 {p : Nat} (h1 : 1 ≤ p) : ¬ p - 1 + 2 ≤ p := by omega
theorem dropC {l : List Nat} {p : Nat} {c : Nat} (h : l[p]? = some c) : l.drop p = c :: l.drop (p + 1) := by
  obtain ⟨hp, rfl⟩ := List.getElem?_eq_some_iff.mp h
  exact List.drop_eq_getElem_cons hp
theorem fnd_skip {l : List Nat} {st c : Nat} (h : l[st]? = some c) (h1 : ¬ (c = 34 ∧ l[st + 1]? = some 34)) (h2 : ¬ (c = 35 ∧ l[st + 1]? ≠ some 35)) : fnd l st = fnd l (st + 1) := by
  have e : st + fe (l.drop st) = st + 1 + fe (l.drop (st + 1)) := by
    rw [dropC h]
    conv => lhs; unfold fe
    have hh : (l.drop (st + 1)).head? = l[st + 1]? := by rw [List.head?_drop]
    rw [hh, if_neg h1, if_neg h2]; omega
  unfold fnd
  rw [e]
theorem fnd_pair {l : List Nat} {st : Nat} (h : l[st]? = some 34) (h1 : l[st + 1]? = some 34) : fnd l st = some (st, st + 2) := by
  have e : st + fe (l.drop st) = st := by
    rw [dropC h]
    conv => lhs; unfold fe
    have hh : (l.drop (st + 1)).head? = l[st + 1]? := by rw [List.head?_drop]
    rw [hh, if_pos ⟨rfl, h1⟩]; omega
  obtain ⟨hp, _⟩ := List.getElem?_eq_some_iff.mp h
  unfold fnd
  rw [e]
  dsimp only
  rw [if_neg (by omega), h, if_neg (by decide)]
theorem fnd_hash {l : List Nat} {st : Nat} (h : l[st]? = some 35) (h1 : l[st + 1]? ≠ some 35) : fnd l st = some (st, st) := by
  have e : st + fe (l.drop st) = st := by
    rw [dropC h]
    conv => lhs; unfold fe
    have hh : (l.drop (st + 1)).head? = l[st + 1]? := by rw [List.head?_drop]
    rw [hh, if_neg (by simp), if_pos ⟨rfl, h1⟩]; omega
  obtain ⟨hp, _⟩ := List.getElem?_eq_some_iff.mp h
  unfold fnd
  rw [e]
  dsimp only
  rw [if_neg (by omega), h, if_pos rfl]
theorem srl_big {l : List Nat} {col : Nat} : ∀ (n st : Nat) (f : Option (Nat × Nat)), st ≤ l.length → (∀ i j, fnd l st = some (i, j) → ¬ (i < col ∧ j ≤ col)) → srl l col n st f = f
  | 0, _, _, _, _ => rfl
  | n + 1, st, f, hst, h => by
    unfold srl
    cases q : fnd l st with
    | none => rfl
    | some ij => obtain ⟨i, j⟩ := ij; dsimp only; rw [if_neg (h i j q)]
theorem srl_at {l : List Nat} {col n st : Nat} {f : Option (Nat × Nat)} (hst : st ≤ l.length) (h : col ≤ st) : srl l col n st f = f :=
  srl_big n st f hst fun i j q => by have := (fnd_spec q hst).1; omega
theorem srl_skip {l : List Nat} {col n st c : Nat} {f : Option (Nat × Nat)} (h : l[st]? = some c) (h1 : ¬ (c = 34 ∧ l[st + 1]? = some 34)) (h2 : ¬ (c = 35 ∧ l[st + 1]? ≠ some 35)) : srl l col n st f = srl l col n (st + 1) f := by
  cases n with
  | zero => rfl
  | succ n => unfold srl; rw [fnd_skip h h1 h2]
theorem srl_pair {l : List Nat} {col n st : Nat} {f : Option (Nat × Nat)} (h : l[st]? = some 34) (h1 : l[st + 1]? = some 34) (hc : st + 2 ≤ col) : srl l col (n + 1) st f = srl l col n (st + 2) (some (st, st + 2)) := by
  conv => lhs; unfold srl
  rw [fnd_pair h h1]
  dsimp only
  rw [if_pos ⟨by omega, hc⟩, if_neg (by omega)]
theorem srl_hash {l : List Nat} {col n st : Nat} {f : Option (Nat × Nat)} (h : l[st]? = some 35) (h1 : l[st + 1]? ≠ some 35) (hc : st < col) : srl l col (n + 1) st f = srl l col n (st + 1) (some (st, st)) := by
  conv => lhs; unfold srl
  rw [fnd_hash h h1]
  dsimp only
  rw [if_pos ⟨by omega, by omega⟩, if_pos rfl]
noncomputable def posOf (p : Nat) (st : OS) : Nat := if st.odd = true ∨ st.passed = [35] then p - 1 else p
structure LastOk (l : List Nat) (p : Nat) (st : OS) : Prop where
  srl : ∃ n, l.length - posOf p st < n ∧ ∀ col, p ≤ col → sr l col = Mine.srl l col n (posOf p st) st.last
  odd : st.odd = true → 1 ≤ p ∧ l[p - 1]? = some 34 ∧ st.passed = [34]
  pas : st.passed = [35] → 1 ≤ p ∧ l[p - 1]? = some 35 ∧ st.odd = false
theorem sign_at {l : List Nat} {p c : Nat} : (l.drop p).take 1 = [c] ↔ l[p]? = some c := by
  cases q : l[p]? with
  | none =>
    have : l.length ≤ p := List.getElem?_eq_none_iff.mp q
    simp [List.drop_eq_nil_of_le this]
  | some d => rw [dropC q]; simp
theorem LastOk.last1 {l : List Nat} {p : Nat} {st : OS} (h : LastOk l p st) (hp : p ≤ l.length) : last1 ((l.drop p).take 1) p st = sr l p := by
  obtain ⟨n, hn, hs⟩ := h.srl
  rw [hs p (Nat.le_refl _)]
  by_cases hpas : st.passed = [35]
  · obtain ⟨h1, h2, h3⟩ := h.pas hpas
    have hpo : posOf p st = p - 1 := by unfold posOf; rw [if_pos (.inr hpas)]
    rw [hpo] at hn ⊢
    have e : p - 1 + 1 = p := pm1 h1
    by_cases hsg : (l.drop p).take 1 = [35]
    · have e3 : Mine.last1 ((l.drop p).take 1) p st = st.last := by unfold Mine.last1; rw [if_neg (fun q => q.2 hsg)]
      rw [e3, srl_skip h2 (by simp) (by rw [e, sign_at.mp hsg]; simp), e, srl_at hp (Nat.le_refl _)]
    · have e3 : Mine.last1 ((l.drop p).take 1) p st = some (p - 1, p - 1) := by unfold Mine.last1; rw [if_pos ⟨hpas, hsg⟩]
      obtain ⟨m, rfl⟩ := ex_succ hn
      rw [e3, srl_hash h2 (by rw [e]; exact fun q => hsg (sign_at.mpr q)) (sb5 h1 (Nat.le_refl _)), e, srl_at hp (Nat.le_refl _)]
  · have e3 : Mine.last1 ((l.drop p).take 1) p st = st.last := by unfold Mine.last1; rw [if_neg (fun q => hpas q.1)]
    rw [e3]
    by_cases ho : st.odd = true
    · obtain ⟨h1, h2, h3⟩ := h.odd ho
      have hpo : posOf p st = p - 1 := by unfold posOf; rw [if_pos (.inl ho)]
      rw [hpo] at hn ⊢
      refine (srl_big n (p - 1) st.last (Nat.le_trans (Nat.sub_le p 1) hp) fun i j q => ?_).symm
      have hx := fnd_spec q (Nat.le_trans (Nat.sub_le p 1) hp)
      rintro ⟨a, b⟩
      have : i = p - 1 := sb7 h1 hx.1 a
      subst this
      rcases hx.2.2 with ⟨rfl, hy⟩ | ⟨rfl, _, _⟩
      · rw [h2] at hy; cases hy
      · exact sb8 h1 b
    · have hpo : posOf p st = p := by unfold posOf; rw [if_neg (fun q => q.elim ho hpas)]
      rw [hpo]
      exact (srl_at hp (Nat.le_refl _)).symm
theorem LastOk.step {P : Par} {l : List Nat} {p c : Nat} {st : OS} (h : LastOk l p st) (hc : l[p]? = some c) : LastOk l (p + 1) (onceStep P [c] p st) := by
  have hsg : (l.drop p).take 1 = [c] := sign_at.mpr hc
  obtain ⟨hp, _⟩ := List.getElem?_eq_some_iff.mp hc
  obtain ⟨n, hn, hs⟩ := h.srl
  have key : (st.odd = true ∧ c = 34) ∨ (¬ (st.odd = true ∧ c = 34) ∧ ∃ m, l.length - p < m ∧ ∀ col, p + 1 ≤ col → sr l col = Mine.srl l col m p (Mine.last1 [c] p st)) := by
    by_cases ho : st.odd = true
    · obtain ⟨h1, h2, h3⟩ := h.odd ho
      by_cases hm : c = 34
      · exact .inl ⟨ho, hm⟩
      · refine .inr ⟨fun q => hm q.2, n, ?_, fun col hcol => ?_⟩
        · unfold posOf at hn; rw [if_pos (.inl ho)] at hn; exact sb1 hn
        · rw [hs col (Nat.le_of_succ_le hcol)]
          unfold posOf Mine.last1
          have e : p - 1 + 1 = p := pm1 h1
          rw [if_pos (.inl ho), if_neg (fun q => by rw [h3] at q; simp at q), srl_skip h2 (by rw [e, hc]; simp; exact hm) (by simp), e]
    · by_cases hpas : st.passed = [35]
      · obtain ⟨h1, h2, h3⟩ := h.pas hpas
        have e : p - 1 + 1 = p := pm1 h1
        refine .inr ⟨fun q => ho q.1, ?_⟩
        unfold posOf at hn hs
        rw [if_pos (.inr hpas)] at hn hs
        unfold Mine.last1
        by_cases hm : c = 35
        · subst hm
          refine ⟨n, sb1 hn, fun col hcol => ?_⟩
          rw [hs col (Nat.le_of_succ_le hcol), if_neg (fun q => q.2 rfl), srl_skip h2 (by simp) (by rw [e, hc]; simp), e]
        · obtain ⟨m, rfl⟩ := ex_succ hn
          refine ⟨m, sb2 h1 (Nat.le_of_lt hp) hn, fun col hcol => ?_⟩
          rw [hs col (Nat.le_of_succ_le hcol), if_pos ⟨hpas, by simpa using hm⟩, srl_hash h2 (by rw [e, hc]; simpa using hm) (sb5 h1 (Nat.le_of_succ_le hcol)), e]
      · refine .inr ⟨fun q => ho q.1, n, ?_, fun col hcol => ?_⟩
        · unfold posOf at hn; rw [if_neg (fun q => q.elim ho hpas)] at hn; exact hn
        · rw [hs col (Nat.le_of_succ_le hcol)]
          unfold posOf Mine.last1
          rw [if_neg (fun q => q.elim ho hpas), if_neg (fun q => hpas q.1)]
  have e1 : p + 1 - 1 = p := Nat.add_sub_cancel p 1
  rcases key with ⟨ho, rfl⟩ | ⟨hno, m, hm, hk⟩
  · obtain ⟨h1, h2, h3⟩ := h.odd ho
    have e : p - 1 + 1 = p := pm1 h1
    have e2 : p - 1 + 2 = p + 1 := pm2 h1
    have hodd : (onceStep P [34] p st).odd = false := by simp [onceStep, ho]
    have hlast : (onceStep P [34] p st).last = some (p - 1, p + 1) := by simp [onceStep, ho]
    have hpas : (onceStep P [34] p st).passed = [34] := rfl
    have hpos : posOf (p + 1) (onceStep P [34] p st) = p + 1 := by unfold posOf; rw [hodd, hpas]; simp
    refine ⟨?_, fun q => (by rw [hodd] at q; cases q), fun q => (by rw [hpas] at q; simp at q)⟩
    rw [hpos, hlast]
    unfold posOf at hn hs
    rw [if_pos (.inl ho)] at hn hs
    obtain ⟨m, rfl⟩ := ex_succ hn
    refine ⟨m, sb3 (sb2 h1 (Nat.le_of_lt hp) hn), fun col hcol => ?_⟩
    rw [hs col (Nat.le_of_succ_le hcol), srl_pair h2 (by rw [e]; exact hc) (sb6 h1 hcol), e2]
  · have hpas : (onceStep P [c] p st).passed = [c] := rfl
    by_cases h34 : c = 34
    · subst h34
      have ho : st.odd = false := by cases q : st.odd <;> simp_all
      have hodd : (onceStep P [34] p st).odd = true := by simp [onceStep, ho]
      have hlast : (onceStep P [34] p st).last = Mine.last1 [34] p st := by simp [onceStep, ho]
      have hpos : posOf (p + 1) (onceStep P [34] p st) = p := by unfold posOf; rw [hodd, hpas]; simp
      refine ⟨?_, fun _ => ⟨Nat.succ_pos p, by rw [e1]; exact hc, rfl⟩, fun q => by rw [hpas] at q; simp at q⟩
      rw [hpos, hlast]
      exact ⟨m, hm, hk⟩
    · have hodd : (onceStep P [c] p st).odd = false := by simp [onceStep, h34]
      have hlast : (onceStep P [c] p st).last = Mine.last1 [c] p st := by simp [onceStep, h34]
      refine ⟨?_, fun q => (by rw [hodd] at q; cases q), fun q => ?_⟩
      · by_cases h35 : c = 35
        · have hpos : posOf (p + 1) (onceStep P [c] p st) = p := by unfold posOf; rw [hpas, h35]; simp
          rw [hpos, hlast]
          exact ⟨m, hm, hk⟩
        · have hpos : posOf (p + 1) (onceStep P [c] p st) = p + 1 := by unfold posOf; rw [hpas, hodd]; simp [h35]
          rw [hpos, hlast]
          exact ⟨m, sb3 hm, fun col hcol => by rw [hk col hcol, srl_skip hc (fun q => h34 q.1) (fun q => h35 q.1)]⟩
      · rw [hpas] at q
        have : c = 35 := by simpa using q
        subst this
        exact ⟨Nat.succ_pos p, by rw [e1]; exact hc, hodd⟩
theorem lastOk0 (l : List Nat) : LastOk l 0 ⟨[], none, false, []⟩ where
  srl := ⟨l.length + 1, by simp [posOf], fun col _ => rfl⟩
  odd := fun h => nomatch h
  pas := fun h => nomatch h
end Mine
open PySem PySem.W PyProof.Rows
set_option Elab.async false
set_option maxRecDepth 100000
set_option linter.unusedVariables false
set_option linter.unusedSimpArgs false
namespace Mine
variable {P : Par} {l : List Nat}
noncomputable def Rn (P : Par) (l : List Nat) (p s : Nat) (L : List Lg) : Prop := ∃ n, runF P l n p s = some L
theorem Rn_out {p s : Nat} {L : List Lg} (h : l.length < (stp P l p s).2.2) : Rn P l p s L ↔ L = [(stp P l p s).1] := by
  constructor
  · rintro ⟨n, hn⟩
    cases n with
    | zero => simp [runF] at hn
    | succ n => unfold runF at hn; rw [if_pos h] at hn; exact (Option.some.inj hn).symm
  · rintro rfl
    exact ⟨1, by unfold runF; rw [if_pos h]⟩
theorem Rn_on {p s : Nat} {L : List Lg} (h : ¬ l.length < (stp P l p s).2.2) : Rn P l p s L ↔ ∃ L', Rn P l (stp P l p s).2.2 (P.nx s (stp P l p s).2.1) L' ∧ L = (stp P l p s).1 :: L' := by
  constructor
  · rintro ⟨n, hn⟩
    cases n with
    | zero => simp [runF] at hn
    | succ n =>
      unfold runF at hn; rw [if_neg h] at hn
      obtain ⟨L', h1, h2⟩ := Option.map_eq_some_iff.mp hn
      exact ⟨L', ⟨n, h1⟩, h2.symm⟩
  · rintro ⟨L', ⟨n, hn⟩, rfl⟩
    exact ⟨n + 1, by unfold runF; rw [if_neg h, hn]; rfl⟩
/-- the name that is read on, and how far one goes -/
noncomputable def cn (w : Nat) (t rest : List Nat) : List Nat × Nat :=
  if w = 0 then (t ++ nm rest, (nm rest).length + (nm rest).count 34 + 1) else match rest with
    | [] => (t, 0)
    | c :: r => if c = 34 then ((if w = 1 then t ++ [34] else t) ++ nm r, 1 + ((nm r).length + (nm r).count 34 + 1)) else (t, 0)
noncomputable def After (P : Par) (l : List Nat) (p s : Nat) (name : List Nat) (g L : List Lg) : Prop :=
  (l.length < p ∧ L = g ++ [Lg.name name]) ∨ (¬ l.length < p ∧ ∃ L', Rn P l p (P.nx s (name.length % 2)) L' ∧ L = g ++ Lg.name name :: L')
noncomputable def Ct (P : Par) (l : List Nat) (p : Nat) (e : En) (L : List Lg) : Prop := After P l (p + (cn e.w e.t (l.drop p)).2) e.s (cn e.w e.t (l.drop p)).1 e.g L
noncomputable def Ctn (P : Par) (l : List Nat) (p : Nat) : Option En → List Lg → Prop
  | none, _ => False
  | some e, L => Ct P l p e L
theorem stp_read {p s : Nat} (h : P.dd s < 2) : stp P l p s = (.name (cn (2 * P.dd s) [] (l.drop p)).1, (cn (2 * P.dd s) [] (l.drop p)).1.length % 2, p + (cn (2 * P.dd s) [] (l.drop p)).2) := by
  unfold stp
  rw [if_pos h]
  have hd : P.dd s = 0 ∨ P.dd s = 1 := by omega
  rcases hd with hd | hd
  · rw [hd]; simp [tl, opn, cn]
  · rw [hd]
    cases l.drop p with
    | nil => simp [tl, opn, cn]
    | cons c r =>
      by_cases hc : c = 34
      · simp [tl, opn, cn, hc]; omega
      · simp [tl, opn, cn, hc]
theorem Rn_read {p s : Nat} {L : List Lg} (h : P.dd s < 2) : Rn P l p s L ↔ Ct P l p ⟨2 * P.dd s, s, [], []⟩ L := by
  have e := stp_read (l := l) (p := p) h
  unfold Ct After
  dsimp only
  by_cases ho : l.length < (stp P l p s).2.2
  · rw [Rn_out ho]
    rw [e] at ho ⊢
    dsimp only at ho ⊢
    constructor
    · intro q; exact .inl ⟨ho, by simpa using q⟩
    · rintro (⟨_, q⟩ | ⟨q, _⟩)
      · simpa using q
      · exact absurd ho q
  · rw [Rn_on ho]
    rw [e] at ho ⊢
    dsimp only at ho ⊢
    constructor
    · rintro ⟨L', h1, h2⟩; exact .inr ⟨ho, L', h1, by simpa using h2⟩
    · rintro (⟨q, _⟩ | ⟨_, L', h1, h2⟩)
      · exact absurd q ho
      · exact ⟨L', h1, by simpa using h2⟩
theorem Ct_pre {p : Nat} {e : En} {g L : List Lg} : Ct P l p { e with g := g ++ e.g } L ↔ ∃ L', Ct P l p e L' ∧ L = g ++ L' := by
  unfold Ct After
  dsimp only
  constructor
  · rintro (⟨a, rfl⟩ | ⟨a, L', h, rfl⟩)
    · exact ⟨_, .inl ⟨a, rfl⟩, by simp⟩
    · exact ⟨_, .inr ⟨a, L', h, rfl⟩, by simp⟩
  · rintro ⟨L', (⟨a, rfl⟩ | ⟨a, L', h, rfl⟩), rfl⟩
    · exact .inl ⟨a, by simp⟩
    · exact .inr ⟨a, L', h, by simp⟩
theorem Ctn_pre {p : Nat} {e : Option En} {g L : List Lg} : Ctn P l p (e.map fun f => { f with g := g ++ f.g }) L ↔ ∃ L', Ctn P l p e L' ∧ L = g ++ L' := by
  cases e with
  | none => simp [Ctn]
  | some e => exact Ct_pre
/-! one sign passed -/
theorem cn_mark {t r : List Nat} : (cn 1 t r).1 = (cn 0 t (34 :: r)).1 ∧ (cn 1 t r).2 + 1 = (cn 0 t (34 :: r)).2 := by
  cases r with
  | nil => simp [cn, nm]
  | cons d r =>
    by_cases hd : d = 34
    · subst hd; simp [cn, nm]; omega
    · simp [cn, nm, hd]
theorem cn_sign {t r : List Nat} {c : Nat} (h : c ≠ 34) : (cn 0 (t ++ [c]) r).1 = (cn 0 t (c :: r)).1 ∧ (cn 0 (t ++ [c]) r).2 + 1 = (cn 0 t (c :: r)).2 := by
  simp [cn, nm_ne r h, List.count_cons, h]; omega
noncomputable def nextE (e : En) (sign : List Nat) : En :=
  if e.w = 0 then (if sign = [34] then ⟨1, e.s, e.t, e.g⟩ else ⟨0, e.s, e.t ++ sign, e.g⟩) else ⟨0, e.s, if e.w = 1 then e.t ++ [34] else e.t, e.g⟩
theorem After_eq {p q s : Nat} {a b : List Nat} {g L : List Lg} (ha : a = b) (hp : p = q ∨ (l.length < p ∧ l.length < q)) : After P l p s a g L ↔ After P l q s b g L := by
  subst ha
  rcases hp with rfl | ⟨h1, h2⟩
  · exact Iff.rfl
  · unfold After
    simp [h1, h2]
theorem Ct_next {p : Nat} {e : En} {L : List Lg} (h : e.w = 0 ∨ (l.drop p).take 1 = [34]) : Ct P l p e L ↔ Ct P l (p + 1) (nextE e ((l.drop p).take 1)) L := by
  obtain ⟨w, s, t, g⟩ := e
  dsimp only at h
  cases hr : l.drop p with
  | nil =>
    have hp : l.length ≤ p := by simpa using hr
    have hr' : l.drop (p + 1) = [] := by simp; omega
    rw [hr] at h
    have hw : w = 0 := h.elim id fun q => nomatch q
    subst hw
    have e : nextE ⟨0, s, t, g⟩ (List.take 1 []) = ⟨0, s, t, g⟩ := by simp [nextE]
    rw [e]; unfold Ct; rw [hr, hr']
    exact After_eq (by simp [cn, nm]) (.inr ⟨by simp [cn]; omega, by simp [cn]; omega⟩)
  | cons c r =>
    have hr' : l.drop (p + 1) = r := by
      have := congrArg (List.drop 1) hr
      rw [List.drop_drop] at this
      simpa using this
    rw [hr] at h
    show Ct P l p ⟨w, s, t, g⟩ L ↔ Ct P l (p + 1) (nextE ⟨w, s, t, g⟩ [c]) L
    by_cases hw : w = 0
    · subst hw
      by_cases hc : c = 34
      · subst hc
        have e : nextE ⟨0, s, t, g⟩ [34] = ⟨1, s, t, g⟩ := rfl
        rw [e]; unfold Ct; rw [hr, hr']
        have := cn_mark (t := t) (r := r)
        exact After_eq this.1.symm (.inl (by dsimp only; omega))
      · have e : nextE ⟨0, s, t, g⟩ [c] = ⟨0, s, t ++ [c], g⟩ := by simp [nextE, hc]
        rw [e]; unfold Ct; rw [hr, hr']
        have := cn_sign (t := t) (r := r) hc
        exact After_eq this.1.symm (.inl (by dsimp only; omega))
    · have hc : c = 34 := by rcases h with q | q; exact absurd q hw; simpa using q
      subst hc
      have e : nextE ⟨w, s, t, g⟩ [34] = ⟨0, s, if w = 1 then t ++ [34] else t, g⟩ := by simp [nextE, hw]
      rw [e]; unfold Ct; rw [hr, hr']
      refine After_eq (by simp [cn, hw]) (.inl (by simp [cn, hw]; omega))
theorem Ct_stay {p : Nat} {e : En} {L : List Lg} (hp : p ≤ l.length) (hw : e.w ≠ 0) (hs : (l.drop p).take 1 ≠ [34]) : Ct P l p e L ↔ ∃ L', Rn P l p (P.nx e.s (e.t.length % 2)) L' ∧ L = e.g ++ Lg.name e.t :: L' := by
  have hc : cn e.w e.t (l.drop p) = (e.t, 0) := by
    unfold cn
    rw [if_neg hw]
    cases hr : l.drop p with
    | nil => rfl
    | cons c r => dsimp only; rw [if_neg (by intro q; rw [hr, q] at hs; exact hs rfl)]
  unfold Ct After
  rw [hc]
  dsimp only [Nat.add_zero]
  constructor
  · rintro (⟨q, _⟩ | ⟨_, q⟩)
    · omega
    · exact q
  · intro q; exact .inr ⟨by omega, q⟩
/-! a walker who never leaves a place gets never out -/
noncomputable def Mv (mv : Nat → Option Nat) : Nat → Nat → Prop
  | 0, _ => True
  | n + 1, s => ∃ s', mv s = some s' ∧ Mv mv n s'
theorem pig3 : ∀ a b c d : Fin 3, ¬ a = b → ¬ a = c → ¬ b = c → d = a ∨ d = b ∨ d = c := by decide +kernel
theorem pig4 {s s2 s3 s4 : Nat} (h1 : s < 3) (h2 : s2 < 3) (h3 : s3 < 3) (h4 : s4 < 3) (a : ¬ s = s2) (b : ¬ s = s3) (c : ¬ s2 = s3) : s4 = s ∨ s4 = s2 ∨ s4 = s3 := by
  rcases pig3 ⟨s, h1⟩ ⟨s2, h2⟩ ⟨s3, h3⟩ ⟨s4, h4⟩ (fun q => a (congrArg Fin.val q)) (fun q => b (congrArg Fin.val q)) (fun q => c (congrArg Fin.val q)) with q | q | q
  · exact .inl (congrArg Fin.val q)
  · exact .inr (.inl (congrArg Fin.val q))
  · exact .inr (.inr (congrArg Fin.val q))
theorem desc {R : Nat → List Lg → Prop} {mv : Nat → Option Nat} (hmv : ∀ s s', s < 3 → mv s = some s' → s' < 3 ∧ ∀ L, R s L → ∃ L', R s' L' ∧ L'.length < L.length) {s : Nat} (hs : s < 3) (h : Mv mv 3 s) : ∀ L, ¬ R s L := by
  obtain ⟨s2, e1, s3, e2, s4, e3, _⟩ := h
  have h2 := (hmv _ _ hs e1).1
  have h3 := (hmv _ _ h2 e2).1
  have h4 := (hmv _ _ h3 e3).1
  have hM : s4 = s ∨ s4 = s2 ∨ s4 = s3 := by
    by_cases a : s = s2
    · subst a
      have : s3 = s := by rw [e1] at e2; exact (Option.some.inj e2).symm
      subst this
      rw [e1] at e3; exact .inl (Option.some.inj e3).symm
    · by_cases b : s = s3
      · subst b; rw [e1] at e3; exact .inr (.inl (Option.some.inj e3).symm)
      · by_cases c : s2 = s3
        · subst c; rw [e2] at e3; exact .inr (.inr (Option.some.inj e3).symm)
        · exact pig4 hs h2 h3 h4 a b c
  have main : ∀ k x, (x = s ∨ x = s2 ∨ x = s3) → ∀ L, L.length < k → ¬ R x L := by
    intro k
    induction k with
    | zero => intro x _ L hL; omega
    | succ k ih =>
      intro x hx L hL hR
      have nxt : ∃ y, (y = s ∨ y = s2 ∨ y = s3) ∧ mv x = some y ∧ x < 3 := by
        rcases hx with rfl | rfl | rfl
        · exact ⟨s2, .inr (.inl rfl), e1, hs⟩
        · exact ⟨s3, .inr (.inr rfl), e2, h2⟩
        · exact ⟨s4, hM, e3, h3⟩
      obtain ⟨y, hy, e, hx3⟩ := nxt
      obtain ⟨L', h5, h6⟩ := (hmv x y hx3 e).2 L hR
      exact ih y hy L' (by omega) h5
  intro L hR
  exact main (L.length + 1) s (.inl rfl) L (by omega) hR
end Mine
open PySem PySem.W PyProof.Rows
set_option Elab.async false
set_option maxRecDepth 100000
set_option linter.unusedVariables false
set_option linter.unusedSimpArgs false
namespace Mine
variable {P : Par} {l : List Nat}
/-! one who begins at a place -/
theorem stp_back {p s : Nat} (h : ¬ P.dd s < 2) : stp P l p s = (lastL (sr l p), nsx (sr l p), goalOf (P.dd s) (sr l p)) := by
  unfold stp
  rw [if_neg h]
  cases sr l p with
  | none => rfl
  | some ij => obtain ⟨i, j⟩ := ij; rfl
noncomputable def mvA (P : Par) (p : Nat) (last : Option (Nat × Nat)) (s : Nat) : Option Nat := if P.dd s < 2 ∨ goalOf (P.dd s) last < p then none else some (P.nx s (nsx last))
theorem goal_le {p d : Nat} {last : Option (Nat × Nat)} (h : ∀ i j, last = some (i, j) → i ≤ p ∧ j ≤ p) : goalOf d last ≤ p := by
  cases last with
  | none => exact Nat.zero_le _
  | some ij =>
    obtain ⟨i, j⟩ := ij
    have := h i j rfl
    show gln d i j ≤ p
    unfold gln
    split
    · omega
    · split <;> omega
structure KInv (P : Par) (l : List Nat) (p : Nat) (keeps : List (List (Option En))) : Prop where
  ent : ∀ q s, q < p → s < 3 → ∀ L, Rn P l q s L ↔ Ctn P l p ((keeps.getD q []).getD s none) L
theorem Rn_back {p s : Nat} {L : List Lg} (hp : p ≤ l.length) (hle : ∀ i j, sr l p = some (i, j) → i ≤ p ∧ j ≤ p) (h : ¬ P.dd s < 2) : Rn P l p s L ↔ ∃ L', Rn P l (goalOf (P.dd s) (sr l p)) (P.nx s (nsx (sr l p))) L' ∧ L = lastL (sr l p) :: L' := by
  have e := stp_back (l := l) (p := p) h
  have hg := goal_le (d := P.dd s) hle
  rw [Rn_on (by rw [e]; dsimp only; omega), e]
theorem stA_spec (hP : P.Ok) {p : Nat} {keeps : List (List (Option En))} (hp : p ≤ l.length) (hle : ∀ i j, sr l p = some (i, j) → i ≤ p ∧ j ≤ p) (hk : KInv P l p keeps) : ∀ (n s : Nat) (log : List Lg), s < 3 →
    (∀ L, (∃ L', Rn P l p s L' ∧ L = log ++ L') ↔ Ctn P l p (stA P p (sr l p) keeps n s log) L) ∨ (stA P p (sr l p) keeps n s log = none ∧ Mv (mvA P p (sr l p)) n s)
  | 0, s, log, hs => .inr ⟨rfl, trivial⟩
  | n + 1, s, log, hs => by
    by_cases hd : P.dd s < 2
    · left
      intro L
      have e : stA P p (sr l p) keeps (n + 1) s log = some ⟨2 * P.dd s, s, [], log⟩ := by simp [stA, hd]
      rw [e]
      have e2 : (some ⟨2 * P.dd s, s, [], log⟩ : Option En) = (some (⟨2 * P.dd s, s, [], []⟩ : En)).map fun f => { f with g := log ++ f.g } := by simp
      rw [e2, Ctn_pre]
      constructor
      · rintro ⟨L', h1, h2⟩; exact ⟨L', (Rn_read hd).mp h1, h2⟩
      · rintro ⟨L', h1, h2⟩; exact ⟨L', (Rn_read hd).mpr h1, h2⟩
    · have hn : P.nx s (nsx (sr l p)) < 3 := hP.nx _ _
      have hR := fun L => Rn_back (P := P) (L := L) hp hle hd
      by_cases hg : goalOf (P.dd s) (sr l p) < p
      · left
        intro L
        have e : stA P p (sr l p) keeps (n + 1) s log = ((keeps.getD (goalOf (P.dd s) (sr l p)) []).getD (P.nx s (nsx (sr l p))) none).map fun f => { f with g := (log ++ [lastL (sr l p)]) ++ f.g } := by
          conv => lhs; unfold stA
          rw [if_neg hd]; dsimp only; rw [if_pos hg]
        rw [e, Ctn_pre]
        constructor
        · rintro ⟨L', h1, rfl⟩
          obtain ⟨L2, h2, rfl⟩ := (hR _).mp h1
          exact ⟨L2, (hk.ent _ _ hg hn _).mp h2, by simp⟩
        · rintro ⟨L', h1, rfl⟩
          exact ⟨_, (hR _).mpr ⟨L', (hk.ent _ _ hg hn _).mpr h1, rfl⟩, by simp⟩
      · have hgp : goalOf (P.dd s) (sr l p) = p := by have := goal_le (d := P.dd s) hle; omega
        have e : stA P p (sr l p) keeps (n + 1) s log = stA P p (sr l p) keeps n (P.nx s (nsx (sr l p))) (log ++ [lastL (sr l p)]) := by
          conv => lhs; unfold stA
          rw [if_neg hd]; dsimp only; rw [if_neg hg]
        rw [e]
        rcases stA_spec hP hp hle hk n _ (log ++ [lastL (sr l p)]) hn with h | ⟨h1, h2⟩
        · left
          intro L
          rw [← h L]
          constructor
          · rintro ⟨L', h1, rfl⟩
            obtain ⟨L2, h2, rfl⟩ := (hR _).mp h1
            rw [hgp] at h2
            exact ⟨L2, h2, by simp⟩
          · rintro ⟨L', h1, rfl⟩
            exact ⟨_, (hR _).mpr ⟨L', by rw [hgp]; exact h1, rfl⟩, by simp⟩
        · exact .inr ⟨h1, _, by unfold mvA; rw [if_neg (fun q => q.elim hd hg)], h2⟩
theorem stA_ent (hP : P.Ok) {p : Nat} {keeps : List (List (Option En))} (hp : p ≤ l.length) (hle : ∀ i j, sr l p = some (i, j) → i ≤ p ∧ j ≤ p) (hk : KInv P l p keeps) {s : Nat} (hs : s < 3) (L : List Lg) : Rn P l p s L ↔ Ctn P l p (stA P p (sr l p) keeps 3 s []) L := by
  rcases stA_spec hP hp hle hk 3 s [] hs with h | ⟨h1, h2⟩
  · rw [← h L]; simp
  · rw [h1]
    refine ⟨fun q => ?_, fun q => q.elim⟩
    refine desc (R := Rn P l p) (mv := mvA P p (sr l p)) ?_ hs h2 L q
    intro x y hx e
    unfold mvA at e
    split at e
    · cases e
    · rename_i hc
      cases e
      refine ⟨hP.nx _ _, fun L hL => ?_⟩
      have hd : ¬ P.dd x < 2 := fun q => hc (.inl q)
      have hgp : goalOf (P.dd x) (sr l p) = p := by have := goal_le (d := P.dd x) hle; have : ¬ goalOf (P.dd x) (sr l p) < p := fun q => hc (.inr q); omega
      obtain ⟨L', h3, rfl⟩ := (Rn_back hp hle hd).mp hL
      rw [hgp] at h3
      exact ⟨L', h3, by simp⟩
/-! a sign is passed -/
theorem pu_none {sign : List Nat} {stand : List (Option En)} : ∀ n, pu P sign stand n none = none
  | 0 => rfl
  | _ + 1 => rfl
theorem pu_next {sign : List Nat} {stand : List (Option En)} {n : Nat} {e : En} (h : e.w = 0 ∨ sign = [34]) : pu P sign stand (n + 1) (some e) = some (nextE e sign) := by
  unfold pu nextE
  by_cases hw : e.w = 0
  · rw [if_pos hw, if_pos hw]; split <;> rfl
  · rw [if_neg hw, if_neg hw, if_pos (h.elim (fun q => absurd q hw) id)]
theorem pu_stay {sign : List Nat} {stand : List (Option En)} {n : Nat} {e : En} (hw : e.w ≠ 0) (hs : sign ≠ [34]) : pu P sign stand (n + 1) (some e) = pu P sign stand n ((stand.getD (P.nx e.s (e.t.length % 2)) none).map fun f => { f with g := (e.g ++ [Lg.name e.t]) ++ f.g }) := by
  conv => lhs; unfold pu
  rw [if_neg hw, if_neg hs]
noncomputable def mvP (P : Par) (stand : List (Option En)) (s : Nat) : Option Nat := match stand.getD s none with
  | none => none
  | some f => if f.w = 0 then none else some (P.nx f.s (f.t.length % 2))
theorem pu_spec (hP : P.Ok) {p : Nat} {stand : List (Option En)} (hp : p ≤ l.length) (hst : ∀ s, s < 3 → ∀ L, Rn P l p s L ↔ Ctn P l p (stand.getD s none) L) (hns : (l.drop p).take 1 ≠ [34]) : ∀ (n s : Nat) (g : List Lg), s < 3 →
    (∀ L, Ctn P l p ((stand.getD s none).map fun f => { f with g := g ++ f.g }) L ↔ Ctn P l (p + 1) (pu P ((l.drop p).take 1) stand n ((stand.getD s none).map fun f => { f with g := g ++ f.g })) L) ∨
    (pu P ((l.drop p).take 1) stand n ((stand.getD s none).map fun f => { f with g := g ++ f.g }) = none ∧ Mv (mvP P stand) n s)
  | 0, s, g, hs => .inr ⟨rfl, trivial⟩
  | n + 1, s, g, hs => by
    cases hf : stand.getD s none with
    | none => left; intro L; exact Iff.rfl
    | some f =>
      rw [Option.map_some]
      by_cases hw : f.w = 0
      · left
        intro L
        rw [pu_next (e := { f with g := g ++ f.g }) (.inl hw)]
        exact Ct_next (e := { f with g := g ++ f.g }) (.inl hw)
      · rw [pu_stay (e := { f with g := g ++ f.g }) hw hns]
        have hn : P.nx f.s (f.t.length % 2) < 3 := hP.nx _ _
        rcases pu_spec hP hp hst hns n _ (g ++ f.g ++ [Lg.name f.t]) hn with h | ⟨h1, h2⟩
        · left
          intro L
          rw [← h L, Ctn_pre]
          refine (Ct_stay (e := { f with g := g ++ f.g }) hp hw hns).trans ?_
          dsimp only
          constructor
          · rintro ⟨L', h1, rfl⟩; exact ⟨L', (hst _ hn _).mp h1, by simp⟩
          · rintro ⟨L', h1, rfl⟩; exact ⟨L', (hst _ hn _).mpr h1, by simp⟩
        · exact .inr ⟨h1, _, by unfold mvP; rw [hf]; dsimp only; rw [if_neg hw], h2⟩
theorem pu_ent (hP : P.Ok) {p : Nat} {stand : List (Option En)} (hp : p ≤ l.length) (hst : ∀ s, s < 3 → ∀ L, Rn P l p s L ↔ Ctn P l p (stand.getD s none) L) (e : Option En) (L : List Lg) :
    Ctn P l p e L ↔ Ctn P l (p + 1) (pu P ((l.drop p).take 1) stand 4 e) L := by
  cases e with
  | none => exact Iff.rfl
  | some e =>
    by_cases hd : e.w = 0 ∨ (l.drop p).take 1 = [34]
    · rw [pu_next hd]; exact Ct_next hd
    · have hw : e.w ≠ 0 := fun q => hd (.inl q)
      have hns : (l.drop p).take 1 ≠ [34] := fun q => hd (.inr q)
      have hn : P.nx e.s (e.t.length % 2) < 3 := hP.nx _ _
      rw [pu_stay hw hns]
      rcases pu_spec hP hp hst hns 3 _ (e.g ++ [Lg.name e.t]) hn with h | ⟨h1, h2⟩
      · rw [← h L, Ctn_pre]
        refine (Ct_stay hp hw hns).trans ?_
        constructor
        · rintro ⟨L', h1, rfl⟩; exact ⟨L', (hst _ hn _).mp h1, by simp⟩
        · rintro ⟨L', h1, rfl⟩; exact ⟨L', (hst _ hn _).mpr h1, by simp⟩
      · rw [h1]
        refine ⟨fun q => ?_, fun q => q.elim⟩
        obtain ⟨L', h3, _⟩ := (Ct_stay hp hw hns).mp q
        refine desc (R := Rn P l p) (mv := mvP P stand) ?_ hn h2 L' h3
        intro x y hx e'
        unfold mvP at e'
        split at e'
        · cases e'
        · rename_i f hf
          split at e'
          · cases e'
          · rename_i hfw
            cases e'
            refine ⟨hP.nx _ _, fun L hL => ?_⟩
            have h5 := (hst _ hx L).mp hL
            rw [hf] at h5
            obtain ⟨L2, h6, rfl⟩ := (Ct_stay hp hfw hns).mp h5
            exact ⟨L2, h6, by simp only [List.length_append, List.length_cons]; omega⟩
theorem pu_w0 {sign : List Nat} {stand : List (Option En)} (hs : sign ≠ [34]) : ∀ (n : Nat) (x : Option En) (e : En), pu P sign stand n x = some e → e.w = 0
  | 0, x, e, h => by cases x <;> cases h
  | n + 1, none, e, h => by cases h
  | n + 1, some f, e, h => by
    by_cases hw : f.w = 0
    · rw [pu_next (.inl hw)] at h
      cases h
      unfold nextE
      rw [if_pos hw, if_neg hs]
    · rw [pu_stay hw hs] at h
      exact pu_w0 hs n _ e h
theorem getD_map2 (keeps : List (List (Option En))) (f : Option En → Option En) (hf : f none = none) (q s : Nat) : ((keeps.map fun line => line.map f).getD q []).getD s none = f ((keeps.getD q []).getD s none) := by
  simp only [List.getD_eq_getElem?_getD, List.getElem?_map]
  cases keeps[q]? with
  | none => simp [hf]
  | some r =>
    simp only [Option.map_some, Option.getD_some, List.getElem?_map]
    cases r[s]? with
    | none => simp [hf]
    | some x => rfl
theorem KInv.step (hP : P.Ok) {p : Nat} {st : OS} (hp : p ≤ l.length) (hok : st.Ok p) (hl : LastOk l p st) (hk : KInv P l p st.keeps) : KInv P l (p + 1) (onceStep P ((l.drop p).take 1) p st).keeps where
  ent := by
    intro q s hq hs L
    have hlast := hl.last1 hp
    have hle := hok.last1 ((l.drop p).take 1)
    rw [hlast] at hle
    have hst : ∀ s, s < 3 → ∀ L, Rn P l p s L ↔ Ctn P l p ((standOf P p (sr l p) st.keeps).getD s none) L := by
      intro s hs L
      have := stA_ent hP hp hle hk hs L
      match s, hs with
      | 0, _ | 1, _ | 2, _ => exact this
    have e : (onceStep P ((l.drop p).take 1) p st).keeps = (st.keeps ++ [standOf P p (sr l p) st.keeps]).map fun line => line.map (pu P ((l.drop p).take 1) (standOf P p (sr l p) st.keeps) 4) := by
      unfold onceStep
      rw [hlast]
    rw [e, getD_map2 _ _ (pu_none 4), ← pu_ent hP hp hst]
    by_cases hqp : q < p
    · have e2 : (st.keeps ++ [standOf P p (sr l p) st.keeps]).getD q [] = st.keeps.getD q [] := by
        rw [List.getD_eq_getElem?_getD, List.getElem?_append_left (by rw [hok.len]; exact hqp), ← List.getD_eq_getElem?_getD]
      rw [e2]
      exact hk.ent q s hqp hs L
    · have : q = p := by omega
      subst this
      have e2 : (st.keeps ++ [standOf P q (sr l q) st.keeps]).getD q [] = standOf P q (sr l q) st.keeps := by
        rw [List.getD_eq_getElem?_getD, List.getElem?_append_right (by rw [hok.len]; exact Nat.le_refl _), hok.len]; simp
      rw [e2]
      exact hst s hs L
theorem once_inv (hP : P.Ok) : ∀ (r : List Nat) (p : Nat) (st : OS), l.drop p = r → p ≤ l.length → st.Ok p → LastOk l p st → KInv P l p st.keeps →
    (onceL P r p st).Ok (l.length + 1) ∧ KInv P l (l.length + 1) (onceL P r p st).keeps ∧ ∀ row ∈ (onceL P r p st).keeps, ∀ e : En, some e ∈ row → e.w = 0
  | [], p, st, hr, hp, hok, hl, hk => by
    have hpl : p = l.length := by have : l.length ≤ p := by simpa using hr
                                  omega
    have h1 := hok.step hP (sign := []) (by simp)
    have h2 := KInv.step hP hp hok hl hk
    rw [hr] at h2
    rw [hpl] at h1 h2
    unfold onceL
    rw [hpl]
    refine ⟨h1, h2, fun row hrow e he => ?_⟩
    simp only [onceStep, List.mem_map] at hrow
    obtain ⟨line, _, rfl⟩ := hrow
    obtain ⟨x, _, hx⟩ := List.mem_map.mp he
    exact pu_w0 (by simp) _ _ _ hx
  | c :: r, p, st, hr, hp, hok, hl, hk => by
    have hc : l[p]? = some c := by
      have : (l.drop p).head? = l[p]? := List.head?_drop ..
      rw [← this, hr]; rfl
    obtain ⟨hp', _⟩ := List.getElem?_eq_some_iff.mp hc
    have hr' : l.drop (p + 1) = r := by
      have := dropC hc
      rw [hr] at this
      exact (List.cons.inj this).2.symm
    have h2 := KInv.step hP hp hok hl hk
    rw [sign_at.mpr hc] at h2
    unfold onceL
    exact once_inv hP r (p + 1) _ hr' hp' (hok.step hP (by simp)) (hl.step hc) h2
theorem plain1 (P : Par) (l : List Nat) (hP : P.Ok) : onceR P l = runW P l := by
  obtain ⟨h1, h2, h3⟩ := once_inv (l := l) hP l 0 ⟨[], none, false, []⟩ rfl (Nat.zero_le _) os0 (lastOk0 l) ⟨fun q s h => absurd h (Nat.not_lt_zero _)⟩
  unfold onceR runW
  generalize onceL P l 0 ⟨[], none, false, []⟩ = S at h1 h2 h3
  have main : ∀ q s, q < l.length + 1 → s < 3 → run P l q s = fin ((S.keeps.getD q []).getD s none) := by
    intro q s hq hs
    have he := h2.ent q s hq hs
    have hq' : S.keeps[q]? = some (S.keeps.getD q []) := getD_at [] (by rw [h1.len]; exact hq)
    have hrow := List.mem_of_getElem? hq'
    have hs' : (S.keeps.getD q [])[s]? = some ((S.keeps.getD q []).getD s none) := getD_at none (by rw [(h1.ent _ hrow).1]; exact hs)
    cases hx : (S.keeps.getD q []).getD s none with
    | none =>
      rw [hx] at he
      refine run_none fun n => ?_
      cases hn : runF P l n q s with
      | none => rfl
      | some L => exact ((he L).mp ⟨n, hn⟩).elim
    | some e =>
      rw [hx] at he hs'
      have hw := h3 _ hrow e (List.mem_of_getElem? hs')
      obtain ⟨n, hn⟩ := (he (e.g ++ [Lg.name e.t])).mpr (by
        have hd : l.drop (l.length + 1) = [] := by simp
        show Ct P l (l.length + 1) e _
        unfold Ct
        rw [hd, hw]
        refine .inl ⟨by simp [cn]; omega, by simp [cn, nm]⟩)
      rw [run_some hn]; rfl
  refine List.ext_getElem? fun q => ?_
  rw [List.getElem?_map, List.getElem?_map]
  by_cases hq : q < l.length + 1
  · have hq' : S.keeps[q]? = some (S.keeps.getD q []) := getD_at [] (by rw [h1.len]; exact hq)
    have hlen := (h1.ent _ (List.mem_of_getElem? hq')).1
    rw [hq', List.getElem?_range hq, Option.map_some, Option.map_some]
    congr 1
    have m0 := main q 0 hq (by decide)
    have m1 := main q 1 hq (by decide)
    have m2 := main q 2 hq (by decide)
    rw [m0, m1, m2]
    generalize S.keeps.getD q [] = row at hlen
    match row, hlen with
    | [a, b, c], _ => rfl
  · rw [List.getElem?_eq_none (by rw [h1.len]; omega), List.getElem?_eq_none (by simp; omega)]
    rfl
end Mine
set_option maxHeartbeats 8000000
theorem PySem.Challenge.cw_ph0023_01_holds : PySem.Challenge.rw_ph0023_01.Holds := by
  w_on; o_law; o_head (kmHook Mine.KK Mine.KA (fun _ => by kernel_rfl) [74]); (case hw => w_witness2)
  k_fill
  intro w s₀ s₁ mg mb G Y fa o pm cd doc dV kV ho hd hcd hD hmg hg args vals as hpre hlay hrd hwl hlo
  have KX := km_in_of Y
  km_tabs Y
  have X := (Ground.X G).1
  have V := (Ground.X G).2
  refine Ground.open G ?_
  intro T B D TE TW
  (try (refine guard_noD D (by decide +kernel) ?_; clear D))
  wrow_args hpre hlay hrd hwl hlo
  rename_i ns _ _ _ _ _ _ _ l vs _ hL _ _ _ hI _ hc _
  refine Mine.wpMono (Mine.join1 (fun P l h _ => Mine.plain1 P l h) T KX (hT8 74 List.mem_cons_self) hmg hL hI (by omega)) fun v s' hv => ?_
  obtain ⟨rfl, hK, hos, hge⟩ := hv
  exact Mine.good1 hK hos hge hg
