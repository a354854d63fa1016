import JvmDerived
import JvmDerived.Pilot.@@N@@Statement
import JvmDerived.Pilot.@@N@@Code
set_option linter.unusedVariables false
set_option linter.unusedSimpArgs false
namespace Jvm.RoadKit
open Sem ClassFile Op Lib Jvm.Stand Jvm.Free Jvm.LawKit
section New
variable {p : Program} {l : Launch} {e : Env} {R : Room} {s : State} {m : MethodId} {args : Array Value} {below : List Frame} {meth : Method} {c : Code} {T : State} {locs : List Loc} {cells slots : Nat}
theorem retI (X : Stand p l e R s m args below meth c T locs cells slots) (hx : p.tables.exec = Jvm.exec) {pc : Nat} {Ls : Array Slot} {z : Int32} {rest : List Value} (hret : meth.sig.returnType = some .int) (hd : decode c.code pc = .ok (.ireturn, 1)) {fs : List Frame}
    (hl : ∀ (f : JFrame) (acts : List Action), f.method = m → f.locked = none → f.entered = [] → (doReturn e (T.setTop f) acts (some (.int z))).1 = T.setFrames fs) : Steps p.tables e below (T.setTop (mkF m pc Ls (.int z :: rest))) (T.setFrames fs) := by
  have hm' : T.vm.method? m = some meth := X.method'
  have hn : narrow .int (.int z) = .int z := rfl
  show Steps p.tables e below (T.setTop { method := m, pc := pc, locals := Ls, stack := _ :: rest, locked := none }) _
  jvm_step X.here [X.here.top, hx, hd, hm', hret, hn]
  first | (intro acts; rw [hl _ acts rfl rfl rfl]) | rw [hl _ _ rfl rfl rfl]
  exact Steps.refl _
theorem retR (X : Stand p l e R s m args below meth c T locs cells slots) (hx : p.tables.exec = Jvm.exec) {pc : Nat} {Ls : Array Slot} {w : Value} {t : FieldType} {rest : List Value} (hret : meth.sig.returnType = some t) (hn : narrow t w = w) (ht : t.isReference = true) (hw : w.isRef = true) (hd : decode c.code pc = .ok (.areturn, 1)) {fs : List Frame}
    (hl : ∀ (f : JFrame) (acts : List Action), f.method = m → f.locked = none → f.entered = [] → (doReturn e (T.setTop f) acts (some w)).1 = T.setFrames fs) : Steps p.tables e below (T.setTop (mkF m pc Ls (w :: rest))) (T.setFrames fs) := by
  have hm' : T.vm.method? m = some meth := X.method'
  show Steps p.tables e below (T.setTop { method := m, pc := pc, locals := Ls, stack := _ :: rest, locked := none }) _
  jvm_step X.here [X.here.top, hx, hd, hm', hret, hn, hw]
  try (refine ⟨ht, ?_⟩)
  first | (intro acts; rw [hl _ acts rfl rfl rfl]) | rw [hl _ _ rfl rfl rfl]
  exact Steps.refl _
end New
end Jvm.RoadKit
namespace Jvm.Wk
open Jvm Jvm.ClassFile Sem Op Lib Jvm.Free Jvm.Stand Jvm.LawKit Jvm.RoadKit
/-! A backward calculus of walks ('Walk'), over the library's Stand laws. -/
abbrev LiT : Type := List (String × Nat × Addr)
/-- String constants since the law's start: texts interned (among Ts); entries known to be resolved -/
abbrev TsT : Type := Option (List String)
def LS (Z : State) (vm : Vm) (Ts : TsT) (Li : LiT) : Prop := (∀ T, Ts = some T → IB Z vm T) ∧ ∀ q ∈ Li, (Z.setVm vm).resolvedAt? q.1 q.2.1 = some (.string q.2.2)
theorem LS.warm {Z s : State} {vm vm' : Vm} {Ts : TsT} {Li : LiT} (h : LS Z vm Ts Li) (hw : (s.setVm vm).WarmedH vm') : LS Z vm' Ts Li := by
  refine ⟨?_, fun q hq => ?_⟩
  · intro T hT
    obtain ⟨more, e, hm⟩ := h.1 T hT
    exact ⟨more, (hw.interned_eq).trans e, hm⟩
  · exact State.resolvedAt?_warmed39 (s := s.setVm vm) hw.wide (h.2 q hq)
theorem LS.start {Z : State} : LS Z Z.vm (some []) [] := ⟨fun T hT => by cases hT; exact IB.start, fun _ q => nomatch q⟩
theorem LS.nil {Z : State} {vm : Vm} {Ts : TsT} {Li : LiT} (h : LS Z vm Ts Li) : LS Z vm Ts [] := ⟨h.1, fun _ q => nomatch q⟩
/-- old cells keep their kind, and their slots but for those in W -/
def Kq (h h' : Heap) (W : Loc → Prop) : Prop := h.size ≤ h'.size ∧ ∀ (a : Addr) (c : Cell), h[a]? = some c → ∃ c' : Cell, h'[a]? = some c' ∧ c'.cls = c.cls ∧ c'.vm = c.vm ∧ c'.slots.size = c.slots.size ∧ ∀ i, ¬ W ⟨a, i⟩ → c'.slots[i]? = c.slots[i]?
abbrev noW : Loc → Prop := fun _ => False
theorem Kq.refl (h : Heap) (W : Loc → Prop) : Kq h h W := ⟨Nat.le_refl _, fun _ c q => ⟨c, q, rfl, rfl, rfl, fun _ _ => rfl⟩⟩
theorem Kq.of_ext {h h' : Heap} (E : Ext h h') : Kq h h' noW := ⟨E.1, fun a c q => ⟨c, E.2 a c q, rfl, rfl, rfl, fun _ _ => rfl⟩⟩
theorem Kq.of_wr {h h' : Heap} {a : Addr} {sl : Nat} {v : Value} (W : Wr h h' a sl v) : Kq h h' (fun y => y = ⟨a, sl⟩) := by
  refine ⟨Nat.le_of_eq W.size.symm, fun b c q => ?_⟩
  obtain ⟨c', e1, e2, e3, e4, e5, e6, -⟩ := wr_at W q
  refine ⟨c', e1, e2, e3, e4, fun i hi => ?_⟩
  by_cases e : b = a
  · refine e6 i fun hj => hi ?_
    rw [e, hj]
  · rw [e5 e]
theorem Kq.trans {h h1 h2 : Heap} {W W1 W2 : Loc → Prop} (K : Kq h h1 W1) (K' : Kq h1 h2 W2) (q1 : ∀ y, W1 y → W y) (q2 : ∀ y : Loc, y.base < h.size → W2 y → W y) : Kq h h2 W := by
  refine ⟨Nat.le_trans K.1 K'.1, fun a c q => ?_⟩
  obtain ⟨c1, a1, a2, a3, a4, a5⟩ := K.2 a c q
  obtain ⟨c2, b1, b2, b3, b4, b5⟩ := K'.2 a c1 a1
  exact ⟨c2, b1, b2.trans a2, b3.trans a3, b4.trans a4, fun i hi => (b5 i fun hw => hi (q2 _ (Array.getElem?_eq_some_iff.mp q).1 hw)).trans (a5 i fun hw => hi (q1 _ hw))⟩
theorem Kq.mono {h h1 : Heap} {W W1 : Loc → Prop} (K : Kq h h1 W1) (q : ∀ y, W1 y → W y) : Kq h h1 W := ⟨K.1, fun a c e => by
  obtain ⟨c1, a1, a2, a3, a4, a5⟩ := K.2 a c e
  exact ⟨c1, a1, a2, a3, a4, fun i hi => a5 i fun hw => hi (q _ hw)⟩⟩
/-- an array: its kind, its length, what stands in it -/
def Av (Z : State) (h : Heap) (a : Addr) (ty : FieldType) (n : Nat) (f : Nat → Value) : Prop := ∃ c : Cell, Arr Z h a c ty ∧ c.slots.size = n ∧ n < 2147483648 ∧ ∀ i, i < n → c.slots[i]? = some (f i)
theorem nw {a b : Addr} {i j : Nat} (q : a ≠ b) : ¬ ((⟨a, i⟩ : Loc) = ⟨b, j⟩) := fun e => q (congrArg Loc.base e)
theorem nws {a b : Addr} {i j : Nat} (q : i ≠ j) : ¬ ((⟨a, i⟩ : Loc) = ⟨b, j⟩) := fun e => q (by cases e; rfl)
theorem nwb {a b : Addr} {i : Nat} (q : a ≠ b) : ¬ ((⟨a, i⟩ : Loc).base = b) := q
theorem ltne {a b : Addr} {n : Nat} (h : a < n) (g : n ≤ b) : a ≠ b := Nat.ne_of_lt (Nat.lt_of_lt_of_le h g)
theorem gtne {a b : Addr} {n : Nat} (h : a < n) (g : n ≤ b) : b ≠ a := Nat.ne_of_gt (Nat.lt_of_lt_of_le h g)
end Jvm.Wk
namespace Jvm.RoadKit
open Jvm Jvm.ClassFile Sem Op Lib Jvm.Free Jvm.Stand Jvm.LawKit Jvm.Wk
section Facts
variable {Z : State} {h h' : Heap} {W : Loc → Prop} {a b : Addr} {C n d : String} {v w : Value} {ty : FieldType}
theorem Fld.kq (F : Fld Z h a C n d v) (K : Kq h h' W) (q : ¬ W ⟨a, Jvm.RoadKit.slotOf Z C n d⟩) : Fld Z h' a C n d v := by
  obtain ⟨cell, cf, k, i, f, h1, h2, h3, h4, h5, h6, h7⟩ := F
  obtain ⟨c', e1, e2, e3, -, e5⟩ := K.2 _ _ h1
  refine ⟨c', cf, k, i, f, e1, h2, h3, by rw [e3]; exact h4, by rw [e3]; exact h5, by rw [e2]; exact h6, ?_⟩
  rw [e5 f.slot (by simpa [slotOf, h2] using q)]; exact h7
theorem Exa.kq (F : Exa Z h a C) (K : Kq h h' W) : Exa Z h' a C := by
  obtain ⟨cell, k, h1, h2, h3, h4, h5⟩ := F
  obtain ⟨c', e1, e2, e3, e4, -⟩ := K.2 _ _ h1
  exact ⟨c', k, e1, by rw [e2]; exact h2, by rw [e2]; exact h3, by rw [e3]; exact h4, by rw [e4]; exact h5⟩
theorem kqCell (K : Kq h h' W) {c : Cell} (e : h[a]? = some c) (q : ∀ i, ¬ W ⟨a, i⟩) : ∃ c' : Cell, h'[a]? = some c' ∧ c'.cls = c.cls ∧ c'.vm = c.vm ∧ c'.slots = c.slots := by
  obtain ⟨c', e1, e2, e3, -, e5⟩ := K.2 _ _ e
  exact ⟨c', e1, e2, e3, Array.ext_getElem? fun i => e5 i (q i)⟩
theorem Arr.kq {c : Cell} (F : Arr Z h a c ty) (K : Kq h h' W) (q : ∀ i, ¬ W ⟨a, i⟩) : ∃ c', Arr Z h' a c' ty ∧ c'.cls = c.cls ∧ c'.slots = c.slots := by
  obtain ⟨c', e1, e2, e3, -, e5⟩ := K.2 _ _ F.1
  obtain ⟨g1, k, g2, g3⟩ := F.2.1
  exact ⟨c', ⟨e1, ⟨by rw [e3]; exact g1, k, by rw [e2]; exact g2, g3⟩, by rw [e3]; exact F.2.2⟩, e2, Array.ext_getElem? fun i => e5 i (q i)⟩
theorem Arv.kq {k : ClassId} {z : Int32} {vs : List Value} {dv : Value} (F : Arv Z h a k ty z vs dv) (K : Kq h h' W) (q : ∀ i, ¬ W ⟨a, i⟩) : Arv Z h' a k ty z vs dv := by
  obtain ⟨c, A, r1, r2, r3, r4, r5⟩ := F
  obtain ⟨c', A', e1, e2⟩ := A.kq K q
  exact ⟨c', A', e1.trans r1, by rw [e2]; exact r2, r3, fun i hi => by rw [e2] at hi ⊢; exact r4 i hi, fun i hi => by rw [e2] at hi; exact r5 i hi⟩
theorem Ins.kq {K : String} {bo : Bool} (F : Ins Z h a K bo) (KK : Kq h h' W) : Ins Z h' a K bo := by
  obtain ⟨cell, cT, h1, h2, h3⟩ := F
  obtain ⟨c', e1, e2, e3, -⟩ := KK.2 _ _ h1
  exact ⟨c', cT, e1, h2, by rw [e2, e3]; exact h3⟩
end Facts
end Jvm.RoadKit
namespace Jvm.Wk
open Jvm Jvm.ClassFile Sem Op Lib Jvm.Free Jvm.Stand Jvm.LawKit Jvm.RoadKit
theorem Av.kq {Z : State} {h h' : Heap} {W : Loc → Prop} {a : Addr} {ty : FieldType} {z : Nat} {f : Nat → Value} (F : Av Z h a ty z f) (K : Kq h h' W) (q : ∀ i, ¬ W ⟨a, i⟩) : Av Z h' a ty z f := by
  obtain ⟨c, A, r1, r2, r3⟩ := F
  obtain ⟨c', A', e1, e2⟩ := A.kq K q
  exact ⟨c', A', by rw [e2]; exact r1, r2, fun i hi => by rw [e2]; exact r3 i hi⟩
theorem exa_av {Z : State} {h : Heap} {a b : Addr} {C : String} {k : Nat} {a0 : Array Value} {ty : FieldType} {z : Nat} {f : Nat → Value} (E : Exa Z h a C) (w : (Cond.instantiable C k).before a0 Z = true) (F : Av Z h b ty z f) : a ≠ b := by obtain ⟨c, A, -⟩ := F; exact ne_arr E w A
theorem Av.congr {Z : State} {h : Heap} {a : Addr} {ty : FieldType} {n : Nat} {f g : Nat → Value} (F : Av Z h a ty n f) (e : ∀ i, i < n → f i = g i) : Av Z h a ty n g := by
  obtain ⟨c, A, r1, r2, r3⟩ := F
  exact ⟨c, A, r1, r2, fun i hi => (e i hi) ▸ r3 i hi⟩
theorem Av.kq0 {Z : State} {h : Heap} {a : Addr} {ty : FieldType} {f g : Nat → Value} (F : Av Z h a ty 0 f) : Av Z h a ty 0 g := F.congr fun i hi => absurd hi (Nat.not_lt_zero _)
theorem Av.lt {Z : State} {h : Heap} {a : Addr} {ty : FieldType} {z : Nat} {f : Nat → Value} (F : Av Z h a ty z f) : a < h.size := by obtain ⟨c, A, -⟩ := F; exact A.lt
theorem Av.of_arv {Z : State} {h : Heap} {a : Addr} {k : ClassId} {ty : FieldType} {z : Int32} {vs : List Value} {d : Value} (F : Arv Z h a k ty z vs d) {n : Nat} (hn : z.toNatClampNeg = n) : Av Z h a ty n (fun i => vs.getD i d) := by
  obtain ⟨c, A, r1, r2, r3, r4, r5⟩ := F
  exact ⟨c, A, r2.trans hn, hn ▸ (back32 r3).2, fun i hi => r4 i (by rw [r2, hn]; exact hi)⟩
end Jvm.Wk
namespace Jvm.Wk
open Jvm Jvm.ClassFile Sem Op Lib Jvm.Free Jvm.Stand Jvm.LawKit Jvm.RoadKit
/-- places made since h, or in W -/
def Fw (h : Heap) (W : Loc → Prop) : Loc → Prop := fun y => h.size ≤ y.base ∨ W y
theorem Fw.fresh {h : Heap} {W : Loc → Prop} {a : Addr} {i : Nat} (q : h.size ≤ a) : Fw h W ⟨a, i⟩ := Or.inl q
theorem Fw.up {h0 h : Heap} {W V : Loc → Prop} (q : ∀ y, V y → Fw h0 W y) (g : h0.size ≤ h.size) : ∀ y, Fw h V y → Fw h0 W y := fun y r => r.elim (fun r => Or.inl (Nat.le_trans g r)) (q y)
theorem Fw.upN {h0 h : Heap} {W : Loc → Prop} (g : h0.size ≤ h.size) : ∀ y, Fw h noW y → Fw h0 W y := fun y r => r.elim (fun r => Or.inl (Nat.le_trans g r)) (fun r => r.elim)
theorem Fw.old {h : Heap} {W : Loc → Prop} {y : Loc} (q : W y) : Fw h W y := Or.inr q
/-- where a walk stands -/
def On (Z : State) (own nm : String) (rt : Option FieldType) (B : ByteArray) (ml : Nat) (R : Room) (h0 : Heap) (ws : Loc → Prop) (p : Program) (l : Launch) (e : Env) (s : State) (m : MethodId) (args : Array Value) (below : List Frame) (meth : Method) (c : Code) (Ts : TsT) (Li : LiT) (T : State) (h : Heap) (locs : List Loc) (cells slots : Nat) : Prop :=
  ∃ (vm0 : Vm) (k0 : Nat), Stand p l e R (s.setVm vm0) m args below meth c T locs cells slots ∧ p.tables.exec = Jvm.exec ∧ T.heap = h ∧ s.Since vm0 k0 ∧ k0 ≤ h.size ∧ Z.Warmed39 vm0 ∧ vm0.findClass own = some m.cls ∧ LS Z vm0 Ts Li ∧
    Fr Z.heap.size locs ∧ (∀ y ∈ locs, ws y) ∧ s.heap = h0 ∧ Ext Z.heap s.heap ∧ c.code = B ∧ c.maxLocals = ml ∧ meth.name = nm ∧ meth.sig.returnType = rt ∧ meth.locks = false
def Go (tb : Tables) (e : Env) (below : List Frame) (F : Outcome → State → Prop) (a : State) : Prop := ∃ s₂ o, Steps tb e below a s₂ ∧ s₂.status = .running ∧ Ended s₂ below o ∧ F o s₂
/-- how a frame ends -/
abbrev QT : Type := Option Value → Heap → TsT → LiT → Prop
def Fnl (Z : State) (R : Room) (h0 : Heap) (W : Loc → Prop) (Q : QT) (s : State) (o : Outcome) (s₂ : State) : Prop :=
  ∃ v L Ts' Li', o = .returned v ∧ Q v s₂.heap Ts' Li' ∧ LS Z s₂.vm Ts' Li' ∧ Fr Z.heap.size L ∧ (∀ y ∈ L, Fw h0 W y) ∧ ReturnedEndW s o s₂ L R.cells R.slots
/-- from wherever a walk stands so, the frame's end is reached -/
def Walk (Z : State) (own nm : String) (rt : Option FieldType) (B : ByteArray) (ml : Nat) (R : Room) (h0 : Heap) (W : Loc → Prop) (Q : QT) (ws : Loc → Prop) (Ts : TsT) (Li : LiT) (h : Heap) (cells slots pc : Nat) (Ls : Array Slot) (st : List Value) : Prop :=
  ∀ p l e s m args below meth c T locs, On Z own nm rt B ml R h0 ws p l e s m args below meth c Ts Li T h locs cells slots → Go p.tables e below (Fnl Z R h0 W Q s) (T.setTop (mkF m pc Ls st))
/-- it answers v0 and leaves all as it was -/
abbrev Pu (v0 : Option Value) (h : Heap) (Ts : TsT) (Li : LiT) : QT := fun v h' T L => v = v0 ∧ h' = h ∧ T = Ts ∧ L = Li
/-- a method's contract -/
def Con (Z : State) (y : MethodName) (B : ByteArray) (ml : Nat) (rt : Option FieldType) (R : Room) (as : List Value) (h0 : Heap) (Ts : TsT) (Li : LiT) (W : Loc → Prop) (Q : QT) : Prop :=
  ∀ l tb, MetFree l y (head1 (Cond.code y B ml rt :: tb) R) (fun a U => a = as.toArray ∧ Z.Warmed39 U.vm ∧ U.heap = h0 ∧ Ext Z.heap U.heap ∧ LS Z U.vm Ts Li) (fun _ _ _ _ _ => True) (fun _ U o U' => Fnl Z R h0 W Q U o U')
theorem Con.of {Z : State} {y : MethodName} {B : ByteArray} {ml : Nat} {rt : Option FieldType} {R : Room} {as : List Value} {h0 : Heap} {Ts : TsT} {Li : LiT} {W : Loc → Prop} {Q : QT} {ws : Loc → Prop} {Ls : Array Slot}
    (hp : plainFor y = true) (he : ∀ m, entryFrame m as.toArray ml = mkF m 0 Ls []) (k : Ext Z.heap h0 → Walk Z y.cls y.name rt B ml R h0 W Q ws Ts Li h0 0 0 0 Ls []) : Con Z y B ml rt R as h0 Ts Li W Q := by
  intro l tb
  refine MetFree.of_bodySF hp hisR ?_
  intro p e s m args below meth c s₁ Bd hml0 hP hK
  obtain ⟨rfl, hZ, hh, hE, hL⟩ := hP
  have X0 : Stand p l e R (s.setVm s.vm) m as.toArray below meth c s₁ [] 0 0 := Stand.of_body Bd
  have e0 : s₁.heap = h0 := by rw [← hh, Bd.state]; rfl
  obtain ⟨s₂, o, h1, h2, h3, h4⟩ := k (hh ▸ hE) p l e s m as.toArray below meth c s₁ [] ⟨s.vm, h0.size, X0, Bd.exec, e0, (State.WarmedH.refl s).since _, Nat.le_refl _, hZ, findClass_of_methodNamed Bd.named, hL, Fr.nil _, (fun _ q => nomatch q), hh, hE, Bd.bytes, hml0, (name_of_methodNamed Bd.named Bd.method).1, Bd.returns, Bd.notSynchronized⟩
  exact ⟨s₂, o, castTop (he m) h1, h2, h3, h4⟩
section W
variable {Z : State} {own nm : String} {rt : Option FieldType} {B : ByteArray} {ml : Nat} {R : Room} {h0 : Heap} {W : Loc → Prop} {Q : QT} {ws : Loc → Prop} {Ts : TsT} {Li : LiT} {h : Heap} {cells slots pc pc' : Nat} {Ls Ls' : Array Slot} {st st' : List Value} {a0 : Array Value}
theorem Walk.lift (f : ∀ (p : Program) (e : Env) (below : List Frame) (T : State) (m : MethodId) (c : Code) (target : State), At T m c below → p.tables.exec = Jvm.exec → c.code = B → Steps p.tables e below (T.setTop (mkF m pc' Ls' st')) target → Steps p.tables e below (T.setTop (mkF m pc Ls st)) target)
    (k : Walk Z own nm rt B ml R h0 W Q ws Ts Li h cells slots pc' Ls' st') : Walk Z own nm rt B ml R h0 W Q ws Ts Li h cells slots pc Ls st := by
  intro p l e s m args below meth c T locs ho
  obtain ⟨s₂, o, h1, r⟩ := k p l e s m args below meth c T locs ho
  obtain ⟨vm0, k0, X, hx, -, -, -, -, -, -, -, -, -, -, hc, -⟩ := ho
  exact ⟨s₂, o, f p e below T m c s₂ X.here hx hc h1, r⟩
theorem Walk.ws_mono {ws' : Loc → Prop} (q : ∀ y, ws y → ws' y) (k : Walk Z own nm rt B ml R h0 W Q ws' Ts Li h cells slots pc Ls st) : Walk Z own nm rt B ml R h0 W Q ws Ts Li h cells slots pc Ls st := by
  intro p l e s m args below meth c T locs ho
  obtain ⟨vm0, k0, X, hx, a1, a2, a3, a4, a5, a6, a7, a8, a9⟩ := ho
  exact k p l e s m args below meth c T locs ⟨vm0, k0, X, hx, a1, a2, a3, a4, a5, a6, a7, fun y hy => q y (a8 y hy), a9⟩
/-- more may have been made -/
theorem Walk.more {cells' slots' : Nat} (hc : cells ≤ cells') (hs : slots ≤ slots') (k : Walk Z own nm rt B ml R h0 W Q ws Ts Li h cells' slots' pc Ls st) : Walk Z own nm rt B ml R h0 W Q ws Ts Li h cells slots pc Ls st := by
  intro p l e s m args below meth c T locs ho
  obtain ⟨vm0, k0, X, r⟩ := ho
  exact k p l e s m args below meth c T locs ⟨vm0, k0, X.more hc hs, r⟩
/-- the law's start stands yet -/
theorem Walk.old (k : Ext Z.heap h → Walk Z own nm rt B ml R h0 W Q ws Ts Li h cells slots pc Ls st) : Walk Z own nm rt B ml R h0 W Q ws Ts Li h cells slots pc Ls st := by
  intro p l e s m args below meth c T locs ho
  obtain ⟨vm0, k0, X, hx, eT, a2, a3, a4, a5, a6, N, a8, a9, E, r⟩ := id ho
  refine k ⟨?_, fun b cl hcl => ?_⟩ p l e s m args below meth c T locs ho
  · have q : s.heap.size ≤ T.heap.size := X.same.2.1
    rw [← eT]; exact Nat.le_trans E.1 q
  · obtain ⟨c', h1, h2, -, h4⟩ := X.same.2.2.2.2.2 b cl (E.2 b cl hcl)
    have hb := (Array.getElem?_eq_some_iff.mp hcl).1
    have hsl : c'.slots = cl.slots := Array.ext_getElem? fun i => h4 i fun hm => absurd (N _ hm) (Nat.not_le.mpr hb)
    have hcc : c' = cl := by rw [h2, hsl]
    rw [← eT, ← hcc]; exact h1
theorem Walk.aloadN {k : Fin 4} {v : Value} (hd : decode B pc = .ok (.aload_n k, 1)) (hl : Ls[k.val]? = some (.val v)) (hv : v.isRef = true) (k' : Walk Z own nm rt B ml R h0 W Q ws Ts Li h cells slots pc' Ls (v :: st)) (hp : pc + 1 = pc' := by rfl) : Walk Z own nm rt B ml R h0 W Q ws Ts Li h cells slots pc Ls (st) :=
  Walk.lift (fun _ _ _ _ _ _ _ h hx hc r => XS.aloadN h hx rfl (hb hc hd) hl hv (by subst hp; exact r)) k'
theorem Walk.aload {k : Nat} {v : Value} (hd : decode B pc = .ok (.aload k, 2)) (hl : Ls[k]? = some (.val v)) (hv : v.isRef = true) (k' : Walk Z own nm rt B ml R h0 W Q ws Ts Li h cells slots pc' Ls (v :: st)) (hp : pc + 2 = pc' := by rfl) : Walk Z own nm rt B ml R h0 W Q ws Ts Li h cells slots pc Ls (st) :=
  Walk.lift (fun _ _ _ _ _ _ _ h hx hc r => XS.aload h hx rfl (hb hc hd) hl hv (by subst hp; exact r)) k'
theorem Walk.iloadN {k : Fin 4} {v : Int32} (hd : decode B pc = .ok (.iload_n k, 1)) (hl : Ls[k.val]? = some (.val (.int v))) (k' : Walk Z own nm rt B ml R h0 W Q ws Ts Li h cells slots pc' Ls (.int v :: st)) (hp : pc + 1 = pc' := by rfl) : Walk Z own nm rt B ml R h0 W Q ws Ts Li h cells slots pc Ls (st) :=
  Walk.lift (fun _ _ _ _ _ _ _ h hx hc r => XS.iloadN h hx rfl (hb hc hd) hl (by subst hp; exact r)) k'
theorem Walk.iload {k : Nat} {v : Int32} (hd : decode B pc = .ok (.iload k, 2)) (hl : Ls[k]? = some (.val (.int v))) (k' : Walk Z own nm rt B ml R h0 W Q ws Ts Li h cells slots pc' Ls (.int v :: st)) (hp : pc + 2 = pc' := by rfl) : Walk Z own nm rt B ml R h0 W Q ws Ts Li h cells slots pc Ls (st) :=
  Walk.lift (fun _ _ _ _ _ _ _ h hx hc r => XS.iload h hx rfl (hb hc hd) hl (by subst hp; exact r)) k'
theorem Walk.lloadN {k : Fin 4} {v : Int64} (hd : decode B pc = .ok (.lload_n k, 1)) (hl : Ls[k.val]? = some (.val (.long v))) (k' : Walk Z own nm rt B ml R h0 W Q ws Ts Li h cells slots pc' Ls (.long v :: st)) (hp : pc + 1 = pc' := by rfl) : Walk Z own nm rt B ml R h0 W Q ws Ts Li h cells slots pc Ls (st) :=
  Walk.lift (fun _ _ _ _ _ _ _ h hx hc r => XT.lloadN h hx rfl (hb hc hd) hl (by subst hp; exact r)) k'
theorem Walk.lload {k : Nat} {v : Int64} (hd : decode B pc = .ok (.lload k, 2)) (hl : Ls[k]? = some (.val (.long v))) (k' : Walk Z own nm rt B ml R h0 W Q ws Ts Li h cells slots pc' Ls (.long v :: st)) (hp : pc + 2 = pc' := by rfl) : Walk Z own nm rt B ml R h0 W Q ws Ts Li h cells slots pc Ls (st) :=
  Walk.lift (fun _ _ _ _ _ _ _ h hx hc r => XT.lload h hx rfl (hb hc hd) hl (by subst hp; exact r)) k'
theorem Walk.iconst {i : Int} (v : Int32) (hd : decode B pc = .ok (.iconst i, 1)) (hv : Int32.ofInt i = v) (k' : Walk Z own nm rt B ml R h0 W Q ws Ts Li h cells slots pc' Ls (.int v :: st)) (hp : pc + 1 = pc' := by rfl) : Walk Z own nm rt B ml R h0 W Q ws Ts Li h cells slots pc Ls (st) :=
  Walk.lift (fun _ _ _ _ _ _ _ h hx hc r => XT.iconstV h hx rfl v (hb hc hd) hv (by subst hp; exact r)) k'
theorem Walk.bipush {i : Int} (v : Int32) (hd : decode B pc = .ok (.bipush i, 2)) (hv : (Int8.ofInt i).toInt32 = v) (k' : Walk Z own nm rt B ml R h0 W Q ws Ts Li h cells slots pc' Ls (.int v :: st)) (hp : pc + 2 = pc' := by rfl) : Walk Z own nm rt B ml R h0 W Q ws Ts Li h cells slots pc Ls (st) :=
  Walk.lift (fun _ _ _ _ _ _ _ h hx hc r => XT.bipushV h hx rfl v (hb hc hd) hv (by subst hp; exact r)) k'
theorem Walk.sipush {i : Int} (v : Int32) (hd : decode B pc = .ok (.sipush i, 3)) (hv : (Int16.ofInt i).toInt32 = v) (k' : Walk Z own nm rt B ml R h0 W Q ws Ts Li h cells slots pc' Ls (.int v :: st)) (hp : pc + 3 = pc' := by rfl) : Walk Z own nm rt B ml R h0 W Q ws Ts Li h cells slots pc Ls (st) :=
  Walk.lift (fun _ _ _ _ _ _ _ h hx hc r => XT.sipushV h hx rfl v (hb hc hd) hv (by subst hp; exact r)) k'
theorem Walk.lconst {k : Fin 2} (v : Int64) (hd : decode B pc = .ok (.lconst k, 1)) (hv : Int64.ofNat k = v) (k' : Walk Z own nm rt B ml R h0 W Q ws Ts Li h cells slots pc' Ls (.long v :: st)) (hp : pc + 1 = pc' := by rfl) : Walk Z own nm rt B ml R h0 W Q ws Ts Li h cells slots pc Ls (st) :=
  Walk.lift (fun _ _ _ _ _ _ _ h hx hc r => XT.lconstV h hx rfl v (hb hc hd) hv (by subst hp; exact r)) k'
theorem Walk.aconstNull (hd : decode B pc = .ok (.aconst_null, 1)) (k' : Walk Z own nm rt B ml R h0 W Q ws Ts Li h cells slots pc' Ls (.null :: st)) (hp : pc + 1 = pc' := by rfl) : Walk Z own nm rt B ml R h0 W Q ws Ts Li h cells slots pc Ls (st) :=
  Walk.lift (fun _ _ _ _ _ _ _ h hx hc r => XS.aconstNull h hx rfl (hb hc hd) (by subst hp; exact r)) k'
theorem Walk.iadd {x y : Int32} (hd : decode B pc = .ok (.iadd, 1)) (k' : Walk Z own nm rt B ml R h0 W Q ws Ts Li h cells slots pc' Ls (.int (x + y) :: st)) (hp : pc + 1 = pc' := by rfl) : Walk Z own nm rt B ml R h0 W Q ws Ts Li h cells slots pc Ls (.int y :: .int x :: st) :=
  Walk.lift (fun _ _ _ _ _ _ _ h hx hc r => XS.iadd h hx rfl (hb hc hd) rfl (by subst hp; exact r)) k'
theorem Walk.isub {x y : Int32} (hd : decode B pc = .ok (.isub, 1)) (k' : Walk Z own nm rt B ml R h0 W Q ws Ts Li h cells slots pc' Ls (.int (x - y) :: st)) (hp : pc + 1 = pc' := by rfl) : Walk Z own nm rt B ml R h0 W Q ws Ts Li h cells slots pc Ls (.int y :: .int x :: st) :=
  Walk.lift (fun _ _ _ _ _ _ _ h hx hc r => XS.isub h hx rfl (hb hc hd) rfl (by subst hp; exact r)) k'
theorem Walk.iand {x y : Int32} (hd : decode B pc = .ok (.iand, 1)) (k' : Walk Z own nm rt B ml R h0 W Q ws Ts Li h cells slots pc' Ls (.int (x &&& y) :: st)) (hp : pc + 1 = pc' := by rfl) : Walk Z own nm rt B ml R h0 W Q ws Ts Li h cells slots pc Ls (.int y :: .int x :: st) :=
  Walk.lift (fun _ _ _ _ _ _ _ h hx hc r => XS.iand h hx rfl (hb hc hd) rfl (by subst hp; exact r)) k'
theorem Walk.imul {x y : Int32} (hd : decode B pc = .ok (.imul, 1)) (k' : Walk Z own nm rt B ml R h0 W Q ws Ts Li h cells slots pc' Ls (.int (x * y) :: st)) (hp : pc + 1 = pc' := by rfl) : Walk Z own nm rt B ml R h0 W Q ws Ts Li h cells slots pc Ls (.int y :: .int x :: st) :=
  Walk.lift (fun _ _ _ _ _ _ _ h hx hc r => XS.imul h hx rfl (hb hc hd) rfl (by subst hp; exact r)) k'
theorem Walk.ixor {x y : Int32} (hd : decode B pc = .ok (.ixor, 1)) (k' : Walk Z own nm rt B ml R h0 W Q ws Ts Li h cells slots pc' Ls (.int (x ^^^ y) :: st)) (hp : pc + 1 = pc' := by rfl) : Walk Z own nm rt B ml R h0 W Q ws Ts Li h cells slots pc Ls (.int y :: .int x :: st) :=
  Walk.lift (fun _ _ _ _ _ _ _ h hx hc r => XT.ixor h hx rfl (hb hc hd) rfl (by subst hp; exact r)) k'
theorem Walk.ior {x y : Int32} (hd : decode B pc = .ok (.ior, 1)) (k' : Walk Z own nm rt B ml R h0 W Q ws Ts Li h cells slots pc' Ls (.int (x ||| y) :: st)) (hp : pc + 1 = pc' := by rfl) : Walk Z own nm rt B ml R h0 W Q ws Ts Li h cells slots pc Ls (.int y :: .int x :: st) :=
  Walk.lift (fun _ _ _ _ _ _ _ h hx hc r => XT.ior h hx rfl (hb hc hd) rfl (by subst hp; exact r)) k'
theorem Walk.ishl {x y : Int32} (hd : decode B pc = .ok (.ishl, 1)) (k' : Walk Z own nm rt B ml R h0 W Q ws Ts Li h cells slots pc' Ls (.int (x <<< (y &&& 31)) :: st)) (hp : pc + 1 = pc' := by rfl) : Walk Z own nm rt B ml R h0 W Q ws Ts Li h cells slots pc Ls (.int y :: .int x :: st) :=
  Walk.lift (fun _ _ _ _ _ _ _ h hx hc r => XT.ishl h hx rfl (hb hc hd) rfl (by subst hp; exact r)) k'
theorem Walk.ishr {x y : Int32} (hd : decode B pc = .ok (.ishr, 1)) (k' : Walk Z own nm rt B ml R h0 W Q ws Ts Li h cells slots pc' Ls (.int (x >>> (y &&& 31)) :: st)) (hp : pc + 1 = pc' := by rfl) : Walk Z own nm rt B ml R h0 W Q ws Ts Li h cells slots pc Ls (.int y :: .int x :: st) :=
  Walk.lift (fun _ _ _ _ _ _ _ h hx hc r => XT.ishr h hx rfl (hb hc hd) rfl (by subst hp; exact r)) k'
theorem Walk.iushr {x y : Int32} (hd : decode B pc = .ok (.iushr, 1)) (k' : Walk Z own nm rt B ml R h0 W Q ws Ts Li h cells slots pc' Ls (.int (XT.ushr x y) :: st)) (hp : pc + 1 = pc' := by rfl) : Walk Z own nm rt B ml R h0 W Q ws Ts Li h cells slots pc Ls (.int y :: .int x :: st) :=
  Walk.lift (fun _ _ _ _ _ _ _ h hx hc r => XT.iushr h hx rfl (hb hc hd) rfl (by subst hp; exact r)) k'
theorem Walk.idiv {x y : Int32} (hd : decode B pc = .ok (.idiv, 1)) (hy : y ≠ 0) (k' : Walk Z own nm rt B ml R h0 W Q ws Ts Li h cells slots pc' Ls (.int (x / y) :: st)) (hp : pc + 1 = pc' := by rfl) : Walk Z own nm rt B ml R h0 W Q ws Ts Li h cells slots pc Ls (.int y :: .int x :: st) :=
  Walk.lift (fun _ _ _ _ _ _ _ h hx hc r => XS.idiv h hx rfl (hb hc hd) rfl hy (by subst hp; exact r)) k'
theorem Walk.irem {x y : Int32} (hd : decode B pc = .ok (.irem, 1)) (hy : y ≠ 0) (k' : Walk Z own nm rt B ml R h0 W Q ws Ts Li h cells slots pc' Ls (.int (x - (x / y) * y) :: st)) (hp : pc + 1 = pc' := by rfl) : Walk Z own nm rt B ml R h0 W Q ws Ts Li h cells slots pc Ls (.int y :: .int x :: st) :=
  Walk.lift (fun _ _ _ _ _ _ _ h hx hc r => XS.irem h hx rfl (hb hc hd) rfl hy (by subst hp; exact r)) k'
theorem Walk.ineg {x : Int32} (hd : decode B pc = .ok (.ineg, 1)) (k' : Walk Z own nm rt B ml R h0 W Q ws Ts Li h cells slots pc' Ls (.int (-x) :: st)) (hp : pc + 1 = pc' := by rfl) : Walk Z own nm rt B ml R h0 W Q ws Ts Li h cells slots pc Ls (.int x :: st) :=
  Walk.lift (fun _ _ _ _ _ _ _ h hx hc r => XS.ineg h hx rfl (hb hc hd) rfl (by subst hp; exact r)) k'
theorem Walk.ladd {x y : Int64} (hd : decode B pc = .ok (.ladd, 1)) (k' : Walk Z own nm rt B ml R h0 W Q ws Ts Li h cells slots pc' Ls (.long (x + y) :: st)) (hp : pc + 1 = pc' := by rfl) : Walk Z own nm rt B ml R h0 W Q ws Ts Li h cells slots pc Ls (.long y :: .long x :: st) :=
  Walk.lift (fun _ _ _ _ _ _ _ h hx hc r => XT.ladd h hx rfl (hb hc hd) rfl (by subst hp; exact r)) k'
theorem Walk.lsub {x y : Int64} (hd : decode B pc = .ok (.lsub, 1)) (k' : Walk Z own nm rt B ml R h0 W Q ws Ts Li h cells slots pc' Ls (.long (x - y) :: st)) (hp : pc + 1 = pc' := by rfl) : Walk Z own nm rt B ml R h0 W Q ws Ts Li h cells slots pc Ls (.long y :: .long x :: st) :=
  Walk.lift (fun _ _ _ _ _ _ _ h hx hc r => XT.lsub h hx rfl (hb hc hd) rfl (by subst hp; exact r)) k'
theorem Walk.lmul {x y : Int64} (hd : decode B pc = .ok (.lmul, 1)) (k' : Walk Z own nm rt B ml R h0 W Q ws Ts Li h cells slots pc' Ls (.long (x * y) :: st)) (hp : pc + 1 = pc' := by rfl) : Walk Z own nm rt B ml R h0 W Q ws Ts Li h cells slots pc Ls (.long y :: .long x :: st) :=
  Walk.lift (fun _ _ _ _ _ _ _ h hx hc r => XT.lmul h hx rfl (hb hc hd) rfl (by subst hp; exact r)) k'
theorem Walk.land {x y : Int64} (hd : decode B pc = .ok (.land, 1)) (k' : Walk Z own nm rt B ml R h0 W Q ws Ts Li h cells slots pc' Ls (.long (x &&& y) :: st)) (hp : pc + 1 = pc' := by rfl) : Walk Z own nm rt B ml R h0 W Q ws Ts Li h cells slots pc Ls (.long y :: .long x :: st) :=
  Walk.lift (fun _ _ _ _ _ _ _ h hx hc r => XT.land h hx rfl (hb hc hd) rfl (by subst hp; exact r)) k'
theorem Walk.lor {x y : Int64} (hd : decode B pc = .ok (.lor, 1)) (k' : Walk Z own nm rt B ml R h0 W Q ws Ts Li h cells slots pc' Ls (.long (x ||| y) :: st)) (hp : pc + 1 = pc' := by rfl) : Walk Z own nm rt B ml R h0 W Q ws Ts Li h cells slots pc Ls (.long y :: .long x :: st) :=
  Walk.lift (fun _ _ _ _ _ _ _ h hx hc r => XT.lor h hx rfl (hb hc hd) rfl (by subst hp; exact r)) k'
theorem Walk.lxor {x y : Int64} (hd : decode B pc = .ok (.lxor, 1)) (k' : Walk Z own nm rt B ml R h0 W Q ws Ts Li h cells slots pc' Ls (.long (x ^^^ y) :: st)) (hp : pc + 1 = pc' := by rfl) : Walk Z own nm rt B ml R h0 W Q ws Ts Li h cells slots pc Ls (.long y :: .long x :: st) :=
  Walk.lift (fun _ _ _ _ _ _ _ h hx hc r => XT.lxor h hx rfl (hb hc hd) rfl (by subst hp; exact r)) k'
theorem Walk.ldiv {x y : Int64} (hd : decode B pc = .ok (.ldiv, 1)) (hy : y ≠ 0) (k' : Walk Z own nm rt B ml R h0 W Q ws Ts Li h cells slots pc' Ls (.long (x / y) :: st)) (hp : pc + 1 = pc' := by rfl) : Walk Z own nm rt B ml R h0 W Q ws Ts Li h cells slots pc Ls (.long y :: .long x :: st) :=
  Walk.lift (fun _ _ _ _ _ _ _ h hx hc r => XT.ldiv h hx rfl (hb hc hd) rfl hy (by subst hp; exact r)) k'
theorem Walk.lrem {x y : Int64} (hd : decode B pc = .ok (.lrem, 1)) (hy : y ≠ 0) (k' : Walk Z own nm rt B ml R h0 W Q ws Ts Li h cells slots pc' Ls (.long (x - (x / y) * y) :: st)) (hp : pc + 1 = pc' := by rfl) : Walk Z own nm rt B ml R h0 W Q ws Ts Li h cells slots pc Ls (.long y :: .long x :: st) :=
  Walk.lift (fun _ _ _ _ _ _ _ h hx hc r => XT.lrem h hx rfl (hb hc hd) rfl hy (by subst hp; exact r)) k'
theorem Walk.lshl {x : Int64} {y : Int32} (hd : decode B pc = .ok (.lshl, 1)) (k' : Walk Z own nm rt B ml R h0 W Q ws Ts Li h cells slots pc' Ls (.long (x <<< (y.toInt64 &&& 63)) :: st)) (hp : pc + 1 = pc' := by rfl) : Walk Z own nm rt B ml R h0 W Q ws Ts Li h cells slots pc Ls (.int y :: .long x :: st) :=
  Walk.lift (fun _ _ _ _ _ _ _ h hx hc r => XT.lshl h hx rfl (hb hc hd) rfl (by subst hp; exact r)) k'
theorem Walk.lshr {x : Int64} {y : Int32} (hd : decode B pc = .ok (.lshr, 1)) (k' : Walk Z own nm rt B ml R h0 W Q ws Ts Li h cells slots pc' Ls (.long (x >>> (y.toInt64 &&& 63)) :: st)) (hp : pc + 1 = pc' := by rfl) : Walk Z own nm rt B ml R h0 W Q ws Ts Li h cells slots pc Ls (.int y :: .long x :: st) :=
  Walk.lift (fun _ _ _ _ _ _ _ h hx hc r => XT.lshr h hx rfl (hb hc hd) rfl (by subst hp; exact r)) k'
theorem Walk.lushr {x : Int64} {y : Int32} (hd : decode B pc = .ok (.lushr, 1)) (k' : Walk Z own nm rt B ml R h0 W Q ws Ts Li h cells slots pc' Ls (.long (XT.ushrL x y) :: st)) (hp : pc + 1 = pc' := by rfl) : Walk Z own nm rt B ml R h0 W Q ws Ts Li h cells slots pc Ls (.int y :: .long x :: st) :=
  Walk.lift (fun _ _ _ _ _ _ _ h hx hc r => XT.lushr h hx rfl (hb hc hd) rfl (by subst hp; exact r)) k'
theorem Walk.lneg {x : Int64} (hd : decode B pc = .ok (.lneg, 1)) (k' : Walk Z own nm rt B ml R h0 W Q ws Ts Li h cells slots pc' Ls (.long (-x) :: st)) (hp : pc + 1 = pc' := by rfl) : Walk Z own nm rt B ml R h0 W Q ws Ts Li h cells slots pc Ls (.long x :: st) :=
  Walk.lift (fun _ _ _ _ _ _ _ h hx hc r => XT.lneg h hx rfl (hb hc hd) rfl (by subst hp; exact r)) k'
theorem Walk.lcmp {x y : Int64} (hd : decode B pc = .ok (.lcmp, 1)) (k' : Walk Z own nm rt B ml R h0 W Q ws Ts Li h cells slots pc' Ls (.int (XT.cmpL x y) :: st)) (hp : pc + 1 = pc' := by rfl) : Walk Z own nm rt B ml R h0 W Q ws Ts Li h cells slots pc Ls (.long y :: .long x :: st) :=
  Walk.lift (fun _ _ _ _ _ _ _ h hx hc r => XT.lcmp h hx rfl (hb hc hd) rfl (by subst hp; exact r)) k'
theorem Walk.i2l {x : Int32} (hd : decode B pc = .ok (.i2l, 1)) (k' : Walk Z own nm rt B ml R h0 W Q ws Ts Li h cells slots pc' Ls (.long x.toInt64 :: st)) (hp : pc + 1 = pc' := by rfl) : Walk Z own nm rt B ml R h0 W Q ws Ts Li h cells slots pc Ls (.int x :: st) :=
  Walk.lift (fun _ _ _ _ _ _ _ h hx hc r => XT.i2l h hx rfl (hb hc hd) rfl (by subst hp; exact r)) k'
theorem Walk.l2i {x : Int64} (hd : decode B pc = .ok (.l2i, 1)) (k' : Walk Z own nm rt B ml R h0 W Q ws Ts Li h cells slots pc' Ls (.int x.toInt32 :: st)) (hp : pc + 1 = pc' := by rfl) : Walk Z own nm rt B ml R h0 W Q ws Ts Li h cells slots pc Ls (.long x :: st) :=
  Walk.lift (fun _ _ _ _ _ _ _ h hx hc r => XT.l2i h hx rfl (hb hc hd) rfl (by subst hp; exact r)) k'
theorem Walk.i2b {x : Int32} (hd : decode B pc = .ok (.i2b, 1)) (k' : Walk Z own nm rt B ml R h0 W Q ws Ts Li h cells slots pc' Ls (.int x.toInt8.toInt32 :: st)) (hp : pc + 1 = pc' := by rfl) : Walk Z own nm rt B ml R h0 W Q ws Ts Li h cells slots pc Ls (.int x :: st) :=
  Walk.lift (fun _ _ _ _ _ _ _ h hx hc r => XT.i2b h hx rfl (hb hc hd) rfl (by subst hp; exact r)) k'
theorem Walk.i2c {x : Int32} (hd : decode B pc = .ok (.i2c, 1)) (k' : Walk Z own nm rt B ml R h0 W Q ws Ts Li h cells slots pc' Ls (.int x.toUInt32.toUInt16.toUInt32.toInt32 :: st)) (hp : pc + 1 = pc' := by rfl) : Walk Z own nm rt B ml R h0 W Q ws Ts Li h cells slots pc Ls (.int x :: st) :=
  Walk.lift (fun _ _ _ _ _ _ _ h hx hc r => XT.i2c h hx rfl (hb hc hd) rfl (by subst hp; exact r)) k'
theorem Walk.i2s {x : Int32} (hd : decode B pc = .ok (.i2s, 1)) (k' : Walk Z own nm rt B ml R h0 W Q ws Ts Li h cells slots pc' Ls (.int x.toInt16.toInt32 :: st)) (hp : pc + 1 = pc' := by rfl) : Walk Z own nm rt B ml R h0 W Q ws Ts Li h cells slots pc Ls (.int x :: st) :=
  Walk.lift (fun _ _ _ _ _ _ _ h hx hc r => XT.i2s h hx rfl (hb hc hd) rfl (by subst hp; exact r)) k'
theorem Walk.dup {x : Value} (hd : decode B pc = .ok (.dup, 1)) (hc1 : x.category = 1) (k' : Walk Z own nm rt B ml R h0 W Q ws Ts Li h cells slots pc' Ls (x :: x :: st)) (hp : pc + 1 = pc' := by rfl) : Walk Z own nm rt B ml R h0 W Q ws Ts Li h cells slots pc Ls (x :: st) :=
  Walk.lift (fun _ _ _ _ _ _ _ h hx hc r => XS.dup h hx rfl (hb hc hd) rfl hc1 (by subst hp; exact r)) k'
theorem Walk.pop {x : Value} (hd : decode B pc = .ok (.pop, 1)) (hc1 : x.category = 1) (k' : Walk Z own nm rt B ml R h0 W Q ws Ts Li h cells slots pc' Ls (st)) (hp : pc + 1 = pc' := by rfl) : Walk Z own nm rt B ml R h0 W Q ws Ts Li h cells slots pc Ls (x :: st) :=
  Walk.lift (fun _ _ _ _ _ _ _ h hx hc r => XT.pop h hx rfl (hb hc hd) rfl hc1 (by subst hp; exact r)) k'
theorem Walk.dupX1 {x y : Value} (hd : decode B pc = .ok (.dup_x1, 1)) (hc1 : x.category = 1) (hc2 : y.category = 1) (k' : Walk Z own nm rt B ml R h0 W Q ws Ts Li h cells slots pc' Ls (x :: y :: x :: st)) (hp : pc + 1 = pc' := by rfl) : Walk Z own nm rt B ml R h0 W Q ws Ts Li h cells slots pc Ls (x :: y :: st) :=
  Walk.lift (fun _ _ _ _ _ _ _ h hx hc r => XT.dupX1 h hx rfl (hb hc hd) rfl hc1 hc2 (by subst hp; exact r)) k'
theorem Walk.dup2 {x y : Value} (hd : decode B pc = .ok (.dup2, 1)) (hc1 : x.category = 1) (hc2 : y.category = 1) (k' : Walk Z own nm rt B ml R h0 W Q ws Ts Li h cells slots pc' Ls (x :: y :: x :: y :: st)) (hp : pc + 1 = pc' := by rfl) : Walk Z own nm rt B ml R h0 W Q ws Ts Li h cells slots pc Ls (x :: y :: st) :=
  Walk.lift (fun _ _ _ _ _ _ _ h hx hc r => XT.dup2 h hx rfl (hb hc hd) rfl hc1 hc2 (by subst hp; exact r)) k'
theorem Walk.dup2L {x : Int64} (hd : decode B pc = .ok (.dup2, 1)) (k' : Walk Z own nm rt B ml R h0 W Q ws Ts Li h cells slots pc' Ls (.long x :: .long x :: st)) (hp : pc + 1 = pc' := by rfl) : Walk Z own nm rt B ml R h0 W Q ws Ts Li h cells slots pc Ls (.long x :: st) :=
  Walk.lift (fun _ _ _ _ _ _ _ h hx hc r => XT.dup2L h hx rfl (hb hc hd) rfl (by subst hp; exact r)) k'
theorem Walk.istoreN {k : Fin 4} {x : Int32} (hd : decode B pc = .ok (.istore_n k, 1)) (hl : storeLocals Ls k.val (.int x) = some Ls') (k' : Walk Z own nm rt B ml R h0 W Q ws Ts Li h cells slots pc' Ls' (st)) (hp : pc + 1 = pc' := by rfl) : Walk Z own nm rt B ml R h0 W Q ws Ts Li h cells slots pc Ls (.int x :: st) :=
  Walk.lift (fun _ _ _ _ _ _ _ h hx hc r => XS.istoreN h hx rfl (hb hc hd) rfl hl (by subst hp; exact r)) k'
theorem Walk.istore {k : Nat} {x : Int32} (hd : decode B pc = .ok (.istore k, 2)) (hl : storeLocals Ls k (.int x) = some Ls') (k' : Walk Z own nm rt B ml R h0 W Q ws Ts Li h cells slots pc' Ls' (st)) (hp : pc + 2 = pc' := by rfl) : Walk Z own nm rt B ml R h0 W Q ws Ts Li h cells slots pc Ls (.int x :: st) :=
  Walk.lift (fun _ _ _ _ _ _ _ h hx hc r => XS.istore h hx rfl (hb hc hd) rfl hl (by subst hp; exact r)) k'
theorem Walk.lstoreN {k : Fin 4} {x : Int64} (hd : decode B pc = .ok (.lstore_n k, 1)) (hl : storeLocals Ls k.val (.long x) = some Ls') (k' : Walk Z own nm rt B ml R h0 W Q ws Ts Li h cells slots pc' Ls' (st)) (hp : pc + 1 = pc' := by rfl) : Walk Z own nm rt B ml R h0 W Q ws Ts Li h cells slots pc Ls (.long x :: st) :=
  Walk.lift (fun _ _ _ _ _ _ _ h hx hc r => XT.lstoreN h hx rfl (hb hc hd) rfl hl (by subst hp; exact r)) k'
theorem Walk.lstore {k : Nat} {x : Int64} (hd : decode B pc = .ok (.lstore k, 2)) (hl : storeLocals Ls k (.long x) = some Ls') (k' : Walk Z own nm rt B ml R h0 W Q ws Ts Li h cells slots pc' Ls' (st)) (hp : pc + 2 = pc' := by rfl) : Walk Z own nm rt B ml R h0 W Q ws Ts Li h cells slots pc Ls (.long x :: st) :=
  Walk.lift (fun _ _ _ _ _ _ _ h hx hc r => XT.lstore h hx rfl (hb hc hd) rfl hl (by subst hp; exact r)) k'
theorem Walk.astoreN {k : Fin 4} {x : Value} (hd : decode B pc = .ok (.astore_n k, 1)) (hv : x.isRef = true) (hl : storeLocals Ls k.val x = some Ls') (k' : Walk Z own nm rt B ml R h0 W Q ws Ts Li h cells slots pc' Ls' (st)) (hp : pc + 1 = pc' := by rfl) : Walk Z own nm rt B ml R h0 W Q ws Ts Li h cells slots pc Ls (x :: st) :=
  Walk.lift (fun _ _ _ _ _ _ _ h hx hc r => XS.astoreN h hx rfl (hb hc hd) rfl hv hl (by subst hp; exact r)) k'
theorem Walk.astore {k : Nat} {x : Value} (hd : decode B pc = .ok (.astore k, 2)) (hv : x.isRef = true) (hl : storeLocals Ls k x = some Ls') (k' : Walk Z own nm rt B ml R h0 W Q ws Ts Li h cells slots pc' Ls' (st)) (hp : pc + 2 = pc' := by rfl) : Walk Z own nm rt B ml R h0 W Q ws Ts Li h cells slots pc Ls (x :: st) :=
  Walk.lift (fun _ _ _ _ _ _ _ h hx hc r => XS.astore h hx rfl (hb hc hd) rfl hv hl (by subst hp; exact r)) k'
theorem Walk.iinc {k : Nat} {cst : Int} {x : Int32} (v : Int32) (hd : decode B pc = .ok (.iinc k cst, 3)) (hv : Int32.ofInt cst = v) (hl0 : Ls[k]? = some (.val (.int x))) (hl : storeLocals Ls k (.int (x + v)) = some Ls') (k' : Walk Z own nm rt B ml R h0 W Q ws Ts Li h cells slots pc' Ls' (st)) (hp : pc + 3 = pc' := by rfl) : Walk Z own nm rt B ml R h0 W Q ws Ts Li h cells slots pc Ls (st) :=
  Walk.lift (fun _ _ _ _ _ _ _ h hx hc r => XT.iincV h hx rfl v (hb hc hd) hv hl0 hl (by subst hp; exact r)) k'
theorem Walk.goto {off : Int} (hd : decode B pc = .ok (.goto off, 3)) (k' : Walk Z own nm rt B ml R h0 W Q ws Ts Li h cells slots pc' Ls (st)) (ho : 0 ≤ (pc : Int) + off := by decide) (hp : ((pc : Int) + off).toNat = pc' := by rfl) : Walk Z own nm rt B ml R h0 W Q ws Ts Li h cells slots pc Ls (st) :=
  Walk.lift (fun _ _ _ _ _ _ _ h hx hc r => XS.goto h hx rfl (pc0 := pc) (pc' := pc') rfl (hb hc hd) ho hp r) k'
theorem Walk.ifYes {off : Int} {cd : ClassFile.Cond} {x : Int32} (hd : decode B pc = .ok (.ifCond cd off, 3)) (hc1 : ifCond.holds cd x = true) (k' : Walk Z own nm rt B ml R h0 W Q ws Ts Li h cells slots pc' Ls (st)) (ho : 0 ≤ (pc : Int) + off := by decide) (hp : ((pc : Int) + off).toNat = pc' := by rfl) : Walk Z own nm rt B ml R h0 W Q ws Ts Li h cells slots pc Ls (.int x :: st) :=
  Walk.lift (fun _ _ _ _ _ _ _ h hx hc r => XS.ifYes h hx rfl (pc0 := pc) (pc' := pc') rfl (hb hc hd) rfl hc1 ho hp r) k'
theorem Walk.ifNo {cd : ClassFile.Cond} {off : Int} {x : Int32} (hd : decode B pc = .ok (.ifCond cd off, 3)) (hc1 : ifCond.holds cd x = false) (k' : Walk Z own nm rt B ml R h0 W Q ws Ts Li h cells slots pc' Ls (st)) (hp : pc + 3 = pc' := by rfl) : Walk Z own nm rt B ml R h0 W Q ws Ts Li h cells slots pc Ls (.int x :: st) :=
  Walk.lift (fun _ _ _ _ _ _ _ h hx hc r => XS.ifNo h hx rfl (hb hc hd) rfl hc1 (by subst hp; exact r)) k'
theorem Walk.icYes {off : Int} {cd : ClassFile.Cond} {x y : Int32} (hd : decode B pc = .ok (.if_icmp cd off, 3)) (hc1 : if_icmp.holds cd x y = true) (k' : Walk Z own nm rt B ml R h0 W Q ws Ts Li h cells slots pc' Ls (st)) (ho : 0 ≤ (pc : Int) + off := by decide) (hp : ((pc : Int) + off).toNat = pc' := by rfl) : Walk Z own nm rt B ml R h0 W Q ws Ts Li h cells slots pc Ls (.int y :: .int x :: st) :=
  Walk.lift (fun _ _ _ _ _ _ _ h hx hc r => XS.icmpYes h hx rfl (pc0 := pc) (pc' := pc') rfl (hb hc hd) rfl hc1 ho hp r) k'
theorem Walk.icNo {cd : ClassFile.Cond} {off : Int} {x y : Int32} (hd : decode B pc = .ok (.if_icmp cd off, 3)) (hc1 : if_icmp.holds cd x y = false) (k' : Walk Z own nm rt B ml R h0 W Q ws Ts Li h cells slots pc' Ls (st)) (hp : pc + 3 = pc' := by rfl) : Walk Z own nm rt B ml R h0 W Q ws Ts Li h cells slots pc Ls (.int y :: .int x :: st) :=
  Walk.lift (fun _ _ _ _ _ _ _ h hx hc r => XS.icmpNo h hx rfl (hb hc hd) rfl hc1 (by subst hp; exact r)) k'
theorem Walk.nullYes {off : Int} {v : Value} (hd : decode B pc = .ok (.ifnull off, 3)) (hv : v = .null) (k' : Walk Z own nm rt B ml R h0 W Q ws Ts Li h cells slots pc' Ls (st)) (ho : 0 ≤ (pc : Int) + off := by decide) (hp : ((pc : Int) + off).toNat = pc' := by rfl) : Walk Z own nm rt B ml R h0 W Q ws Ts Li h cells slots pc Ls (v :: st) :=
  Walk.lift (fun _ _ _ _ _ _ _ h hx hc r => XT.nullYes h hx rfl (pc0 := pc) (pc' := pc') rfl (hb hc hd) rfl hv ho hp r) k'
theorem Walk.nullNo {off : Int} {v : Value} (hd : decode B pc = .ok (.ifnull off, 3)) (hr : v.isRef = true) (hv : ¬ v = .null) (k' : Walk Z own nm rt B ml R h0 W Q ws Ts Li h cells slots pc' Ls (st)) (hp : pc + 3 = pc' := by rfl) : Walk Z own nm rt B ml R h0 W Q ws Ts Li h cells slots pc Ls (v :: st) :=
  Walk.lift (fun _ _ _ _ _ _ _ h hx hc r => XT.nullNo h hx rfl (hb hc hd) rfl hr hv (by subst hp; exact r)) k'
theorem Walk.nonnullYes {off : Int} {v : Value} (hd : decode B pc = .ok (.ifnonnull off, 3)) (hr : v.isRef = true) (hv : ¬ v = .null) (k' : Walk Z own nm rt B ml R h0 W Q ws Ts Li h cells slots pc' Ls (st)) (ho : 0 ≤ (pc : Int) + off := by decide) (hp : ((pc : Int) + off).toNat = pc' := by rfl) : Walk Z own nm rt B ml R h0 W Q ws Ts Li h cells slots pc Ls (v :: st) :=
  Walk.lift (fun _ _ _ _ _ _ _ h hx hc r => XT.nonnullYes h hx rfl (pc0 := pc) (pc' := pc') rfl (hb hc hd) rfl hr hv ho hp r) k'
theorem Walk.nonnullNo {off : Int} {v : Value} (hd : decode B pc = .ok (.ifnonnull off, 3)) (hv : v = .null) (k' : Walk Z own nm rt B ml R h0 W Q ws Ts Li h cells slots pc' Ls (st)) (hp : pc + 3 = pc' := by rfl) : Walk Z own nm rt B ml R h0 W Q ws Ts Li h cells slots pc Ls (v :: st) :=
  Walk.lift (fun _ _ _ _ _ _ _ h hx hc r => XT.nonnullNo h hx rfl (hb hc hd) rfl hv (by subst hp; exact r)) k'
theorem Walk.acYes {off : Int} {cd : ClassFile.ACond} {x y : Value} (hd : decode B pc = .ok (.if_acmp cd off, 3)) (h1 : x.isRef = true) (h2 : y.isRef = true) (hc1 : XT.acmp cd x y = true) (k' : Walk Z own nm rt B ml R h0 W Q ws Ts Li h cells slots pc' Ls (st)) (ho : 0 ≤ (pc : Int) + off := by decide) (hp : ((pc : Int) + off).toNat = pc' := by rfl) : Walk Z own nm rt B ml R h0 W Q ws Ts Li h cells slots pc Ls (y :: x :: st) :=
  Walk.lift (fun _ _ _ _ _ _ _ h hx hc r => XT.acmpYes h hx rfl (pc0 := pc) (pc' := pc') rfl (hb hc hd) rfl h1 h2 hc1 ho hp r) k'
theorem Walk.acNo {cd : ClassFile.ACond} {off : Int} {x y : Value} (hd : decode B pc = .ok (.if_acmp cd off, 3)) (h1 : x.isRef = true) (h2 : y.isRef = true) (hc1 : XT.acmp cd x y = false) (k' : Walk Z own nm rt B ml R h0 W Q ws Ts Li h cells slots pc' Ls (st)) (hp : pc + 3 = pc' := by rfl) : Walk Z own nm rt B ml R h0 W Q ws Ts Li h cells slots pc Ls (y :: x :: st) :=
  Walk.lift (fun _ _ _ _ _ _ _ h hx hc r => XT.acmpNo h hx rfl (hb hc hd) rfl h1 h2 hc1 (by subst hp; exact r)) k'
/-! ### steps that touch the heap -/
theorem On.kqOf {p : Program} {l : Launch} {e : Env} {s : State} {m : MethodId} {args : Array Value} {below : List Frame} {meth : Method} {c : Code} {T : State} {locs : List Loc}
    (ho : On Z own nm rt B ml R h0 ws p l e s m args below meth c Ts Li T h locs cells slots) (q : ∀ y, ws y → Fw h0 W y) : Kq h0 h W := by
  obtain ⟨vm0, k0, X, hx, eT, -, -, -, -, -, -, hws, e0, -⟩ := ho
  refine ⟨by rw [← e0, ← eT]; exact X.same.2.1, fun a cl hcl => ?_⟩
  rw [← e0] at hcl
  obtain ⟨c', h1, h2, h3, h4⟩ := X.same.2.2.2.2.2 a cl hcl
  have hlt := (Array.getElem?_eq_some_iff.mp hcl).1
  refine ⟨c', by rw [← eT]; exact h1, by rw [h2], by rw [h2], h3, fun i hi => h4 i fun hm => ?_⟩
  rcases q _ (hws _ hm) with r | r
  · rw [← e0] at r
    exact absurd r (Nat.not_le.mpr hlt)
  · exact hi r
theorem Walk.kept (q : ∀ y, ws y → Fw h0 W y) (k : Kq h0 h W → Walk Z own nm rt B ml R h0 W Q ws Ts Li h cells slots pc Ls st) : Walk Z own nm rt B ml R h0 W Q ws Ts Li h cells slots pc Ls st := by
  intro p l e s m args below meth c T locs ho
  exact k (ho.kqOf q) p l e s m args below meth c T locs ho
theorem Walk.getF {R0 O n d host : String} {index : Nat} {a : Addr} {v : Value} (w : (Cond.fieldLink own index R0 n d).before a0 Z = true ∨ (Cond.fieldLinkNest own index R0 n d host).before a0 Z = true) (via : Via Z R0 O n d) (F : Fld Z h a O n d v) (hd : decode B pc = .ok (.getfield index, 3))
    (k : Walk Z own nm rt B ml R h0 W Q ws Ts Li h cells slots pc' Ls (v :: st)) (hp : pc + 3 = pc' := by rfl) : Walk Z own nm rt B ml R h0 W Q ws Ts Li h cells slots pc Ls (.ref a :: st) := by
  intro p l e s m args below meth c T locs ho
  obtain ⟨vm0, k0, X, hx, eT, a2, a3, a4, a5, a6, a7, a8, a9, a10, hc, r⟩ := ho
  obtain ⟨T', X', e', stp⟩ := RoadKit.getF X hx a4 a5 w via eT F (g := mkF m pc Ls (.ref a :: st)) rfl rfl (hb hc hd)
  subst hp
  obtain ⟨s₂, o, h1, r2⟩ := k p l e s m args below meth c T' locs ⟨vm0, k0, X', hx, e', a2, a3, a4, a5, a6, a7, a8, a9, a10, hc, r⟩
  exact ⟨s₂, o, stp _ h1, r2⟩
theorem Walk.getS {R0 O n d : String} {index : Nat} {v : Value} (w : (Cond.fieldLink own index R0 n d).before a0 Z = true) (via : Via Z R0 O n d) (F : Sta Z Z.heap O n d v) (hd : decode B pc = .ok (.getstatic index, 3))
    (k : Walk Z own nm rt B ml R h0 W Q ws Ts Li h cells slots pc' Ls (v :: st)) (hp : pc + 3 = pc' := by rfl) : Walk Z own nm rt B ml R h0 W Q ws Ts Li h cells slots pc Ls st := by
  refine Walk.old fun E => ?_
  intro p l e s m args below meth c T locs ho
  obtain ⟨vm0, k0, X, hx, eT, a2, a3, a4, a5, a6, a7, a8, a9, a10, hc, r⟩ := ho
  obtain ⟨T', X', e', stp⟩ := RoadKit.getS (host := "") X hx a4 a5 w via eT (F.ext E) (g := mkF m pc Ls st) rfl (hb hc hd)
  subst hp
  obtain ⟨s₂, o, h1, r2⟩ := k p l e s m args below meth c T' locs ⟨vm0, k0, X', hx, e', a2, a3, a4, a5, a6, a7, a8, a9, a10, hc, r⟩
  exact ⟨s₂, o, stp _ h1, r2⟩
theorem Walk.putF {R0 O n d host C : String} {index kk : Nat} {ty : FieldType} {a : Addr} {v old : Value} (w : (Cond.fieldLink own index R0 n d).before a0 Z = true ∨ (Cond.fieldLinkNest own index R0 n d host).before a0 Z = true) (via : Via Z R0 O n d) (F : Fld Z h a O n d old) (E : Exa Z h a C)
    (L : (Cond.lays C O n d).before a0 Z = true ∨ ((Cond.laysFinal C O n d).before a0 Z = true ∧ own = O ∧ nm = "<init>")) (wi : (Cond.instantiable C kk).before a0 Z = true) (hty : parseFieldDescriptor d = some ty) (hn : narrow ty v = v) (hf : fits ty v = true) (hd : decode B pc = .ok (.putfield index, 3))
    (hz : Z.heap.size ≤ a) (hw : ws ⟨a, Jvm.RoadKit.slotOf Z O n d⟩) (k : ∀ h', Kq h h' (fun y => y = ⟨a, Jvm.RoadKit.slotOf Z O n d⟩) → Fld Z h' a O n d v → Walk Z own nm rt B ml R h0 W Q ws Ts Li h' cells slots pc' Ls st) (hp : pc + 3 = pc' := by rfl) : Walk Z own nm rt B ml R h0 W Q ws Ts Li h cells slots pc Ls (v :: .ref a :: st) := by
  intro p l e s m args below meth c T locs ho
  obtain ⟨vm0, k0, X, hx, eT, a2, a3, a4, a5, a6, a7, a8, a9, a10, hc, b1, b2, r⟩ := ho
  obtain ⟨T', h', X', e', Wr', stp⟩ := RoadKit.putF X hx a4 a5 w via eT F E (L.imp id fun q => ⟨q.1, q.2.1, b2.trans q.2.2⟩) wi hty hn hf (g := mkF m pc Ls (v :: .ref a :: st)) rfl rfl (hb hc hd)
  subst hp
  obtain ⟨s₂, o, h1, r2⟩ := k h' (Kq.of_wr Wr') (F.same Wr') p l e s m args below meth c T' _ ⟨vm0, k0, X', hx, e', a2, Nat.le_trans a3 (Nat.le_of_eq Wr'.size.symm), a4, a5, a6, Fr.snoc X' a7 hz, fun y hy => (List.mem_append.mp hy).elim (a8 y) fun q => by cases List.mem_singleton.mp q; exact hw, a9, a10, hc, b1, b2, r⟩
  exact ⟨s₂, o, stp _ h1, r2⟩
theorem Walk.newO {C : String} {index n : Nat} (w : (Cond.classLink own index C).before a0 Z = true) (wi : (Cond.instantiable C n).before a0 Z = true) (wz : (Cond.initialized C).before a0 Z = true) (hd : decode B pc = .ok (.new index, 3)) (hc1 : cells + 1 ≤ R.cells) (hl1 : slots + n ≤ R.slots)
    (k : ∀ h' x, h.size ≤ x → h0.size ≤ x → Z.heap.size ≤ x → Kq h h' noW → Exa Z h' x C → (∀ {O nm d : String} {ty : FieldType}, Laid Z a0 C O nm d → parseFieldDescriptor d = some ty → Fld Z h' x O nm d (defaultValue ty)) → Walk Z own nm rt B ml R h0 W Q ws Ts Li h' (cells + 1) (slots + n) pc' Ls (.ref x :: st)) (hp : pc + 3 = pc' := by rfl) :
    Walk Z own nm rt B ml R h0 W Q ws Ts Li h cells slots pc Ls st := by
  intro p l e s m args below meth c T locs ho
  obtain ⟨vm0, k0, X, hx, eT, a2, a3, a4, a5, a6, a7, a8, a9, a10, hc, r⟩ := ho
  obtain ⟨T', h', X', e', E', A', D', -, stp⟩ := RoadKit.newO X hx a4 a5 w wi wz eT (g := mkF m pc Ls st) rfl (hb hc hd) hc1 hl1
  subst hp
  have g1 : h0.size ≤ h.size := by rw [← a9, ← eT]; exact X.same.2.1
  have g2 : Z.heap.size ≤ h.size := Nat.le_trans (by rw [← a9]; exact a10.1) g1
  obtain ⟨s₂, o, h1, r2⟩ := k h' h.size (Nat.le_refl _) g1 g2 (Kq.of_ext E') A' D' p l e s m args below meth c T' locs ⟨vm0, k0, X', hx, e', a2, Nat.le_trans a3 E'.1, a4, a5, a6, a7, a8, a9, a10, hc, r⟩
  exact ⟨s₂, o, stp _ h1, r2⟩
theorem Av.of_new {k : ClassId} {z : Int32} {a : Addr} {ty : FieldType} (A : Arr Z h a (newA k ty z) ty) (q : ¬ z < 0) : Av Z h a ty z.toNatClampNeg (fun _ => defaultValue ty) := by
  refine ⟨_, A, sz_new _ _ _, (back32 q).2, fun i hi => ?_⟩
  simp [newA, hi]
theorem Walk.newA {aty : ArrayType} {n : Int32} (w : (Cond.arrayClass (newarray.typeOf aty)).before a0 Z = true) (hd : decode B pc = .ok (.newarray aty, 2)) (hn : ¬ n < 0) {cap : Nat} (hcap : n.toNatClampNeg ≤ cap) (hb8 : cap * 8 ≤ 536870912) (hc1 : cells + 1 ≤ R.cells) (hl1 : slots + cap ≤ R.slots)
    (k : ∀ h' x, h.size ≤ x → h0.size ≤ x → Z.heap.size ≤ x → Kq h h' noW → Av Z h' x (newarray.typeOf aty) n.toNatClampNeg (fun _ => defaultValue (newarray.typeOf aty)) → (∃ cA, Arv Z h' x cA (newarray.typeOf aty) n [] (defaultValue (newarray.typeOf aty))) → Walk Z own nm rt B ml R h0 W Q ws Ts Li h' (cells + 1) (slots + cap) pc' Ls (.ref x :: st)) (hp : pc + 2 = pc' := by rfl) :
    Walk Z own nm rt B ml R h0 W Q ws Ts Li h cells slots pc Ls (.int n :: st) := by
  intro p l e s m args below meth c T locs ho
  obtain ⟨vm0, k0, X, hx, eT, a2, a3, a4, a5, a6, a7, a8, a9, a10, hc, r⟩ := ho
  obtain ⟨T', h', cA, X', e', E', A', stp⟩ := RoadKit.newP X hx a4 w eT (g := mkF m pc Ls (.int n :: st)) rfl (hb hc hd) rfl hn hcap hb8 hc1 hl1
  subst hp
  have g1 : h0.size ≤ h.size := by rw [← a9, ← eT]; exact X.same.2.1
  have g2 : Z.heap.size ≤ h.size := Nat.le_trans (by rw [← a9]; exact a10.1) g1
  obtain ⟨s₂, o, h1, r2⟩ := k h' h.size (Nat.le_refl _) g1 g2 (Kq.of_ext E') (Av.of_new A' hn) ⟨cA, Arv.new A' hn⟩ p l e s m args below meth c T' locs ⟨vm0, k0, X', hx, e', a2, Nat.le_trans a3 E'.1, a4, a5, a6, a7, a8, a9, a10, hc, r⟩
  exact ⟨s₂, o, stp _ h1, r2⟩
theorem Walk.castY {K : String} {index : Nat} {a : Addr} (w : (Cond.classLink own index K).before a0 Z = true) (F : Ins Z h a K true) (hd : decode B pc = .ok (.checkcast index, 3))
    (k : Walk Z own nm rt B ml R h0 W Q ws Ts Li h cells slots pc' Ls (.ref a :: st)) (hp : pc + 3 = pc' := by rfl) : Walk Z own nm rt B ml R h0 W Q ws Ts Li h cells slots pc Ls (.ref a :: st) := by
  intro p l e s m args below meth c T locs ho
  obtain ⟨vm0, k0, X, hx, eT, a2, a3, a4, a5, a6, a7, a8, a9, a10, hc, r⟩ := ho
  obtain ⟨T', X', e', stp⟩ := RoadKit.castY X hx a4 a5 w eT F (g := mkF m pc Ls (.ref a :: st)) rfl rfl (hb hc hd)
  subst hp
  obtain ⟨s₂, o, h1, r2⟩ := k p l e s m args below meth c T' locs ⟨vm0, k0, X', hx, e', a2, a3, a4, a5, a6, a7, a8, a9, a10, hc, r⟩
  exact ⟨s₂, o, stp _ h1, r2⟩
theorem Walk.instY {K : String} {index : Nat} {a : Addr} (w : (Cond.classLink own index K).before a0 Z = true) (F : Ins Z h a K true) (hd : decode B pc = .ok (.instanceof index, 3))
    (k : Walk Z own nm rt B ml R h0 W Q ws Ts Li h cells slots pc' Ls (.int 1 :: st)) (hp : pc + 3 = pc' := by rfl) : Walk Z own nm rt B ml R h0 W Q ws Ts Li h cells slots pc Ls (.ref a :: st) := by
  intro p l e s m args below meth c T locs ho
  obtain ⟨vm0, k0, X, hx, eT, a2, a3, a4, a5, a6, a7, a8, a9, a10, hc, r⟩ := ho
  obtain ⟨T', X', e', stp⟩ := RoadKit.instY X hx a4 a5 w eT F (g := mkF m pc Ls (.ref a :: st)) rfl rfl (hb hc hd)
  subst hp
  obtain ⟨s₂, o, h1, r2⟩ := k p l e s m args below meth c T' locs ⟨vm0, k0, X', hx, e', a2, a3, a4, a5, a6, a7, a8, a9, a10, hc, r⟩
  exact ⟨s₂, o, stp _ h1, r2⟩
/-! arrays -/
theorem Walk.alen {a : Addr} {ty : FieldType} {n : Nat} {f : Nat → Value} (F : Av Z h a ty n f) (hd : decode B pc = .ok (.arraylength, 1)) {z : Int32} (hz : n.toInt32 = z)
    (k : Walk Z own nm rt B ml R h0 W Q ws Ts Li h cells slots pc' Ls (.int z :: st)) (hp : pc + 1 = pc' := by rfl) : Walk Z own nm rt B ml R h0 W Q ws Ts Li h cells slots pc Ls (.ref a :: st) := by
  intro p l e s m args below meth c T locs ho
  obtain ⟨s₂, o, h1, r2⟩ := k p l e s m args below meth c T locs ho
  obtain ⟨vm0, k0, X, hx, eT, a2, a3, a4, a5, a6, a7, a8, a9, a10, hc, r⟩ := ho
  obtain ⟨cl, A, A1, A2, A3⟩ := F
  subst hp hz A1
  exact ⟨s₂, o, X.arraylength hx (by rw [eT]; exact A.1) (State.isArrayOf_alike a4.alike A.2.1) (g := mkF m pc Ls (.ref a :: st)) rfl rfl (hb hc hd) _ h1, r2⟩
theorem idx_of {j : Int32} {i n : Nat} (hj : j = Int32.ofNat i) (hi : i < n) (hn : n < 2147483648) : ¬ (j < 0 ∨ n ≤ j.toNatClampNeg) ∧ j.toNatClampNeg = i := by
  subst hj
  have q : (Int32.ofNat i).toNatClampNeg = i := by
    have := idx_in (i := i) (n := i + 1) (by omega) (by omega)
    have e : (Int32.ofNat i).toInt = i := Int32.toInt_ofNat_small (by omega)
    show (Int32.ofNat i).toInt.toNat = i
    rw [e]; rfl
  exact ⟨q.symm ▸ fun z => z.elim (fun y => by
    have e : (Int32.ofNat i).toInt = i := Int32.toInt_ofNat_small (by omega)
    rw [Int32.lt_iff_toInt_lt, e] at y
    have : (0 : Int32).toInt = 0 := rfl
    omega) (fun y => by omega), q⟩
theorem Walk.iaload {a : Addr} {n i : Nat} {f : Nat → Value} {j : Int32} {v : Value} (F : Av Z h a .int n f) (hd : decode B pc = .ok (.iaload, 1)) (hj0 : ¬ j < 0) (hj : j.toNatClampNeg = i) (hi : i < n) (hv : f i = v)
    (k : Walk Z own nm rt B ml R h0 W Q ws Ts Li h cells slots pc' Ls (v :: st)) (hp : pc + 1 = pc' := by rfl) : Walk Z own nm rt B ml R h0 W Q ws Ts Li h cells slots pc Ls (.int j :: .ref a :: st) := by
  intro p l e s m args below meth c T locs ho
  obtain ⟨s₂, o, h1, r2⟩ := k p l e s m args below meth c T locs ho
  obtain ⟨vm0, k0, X, hx, eT, a2, a3, a4, a5, a6, a7, a8, a9, a10, hc, r⟩ := ho
  obtain ⟨cl, A, A1, A2, A3⟩ := F
  subst hp hv A1 hj
  exact ⟨s₂, o, X.iaload hx (by rw [eT]; exact A.1) (State.isArrayOf_alike a4.alike A.2.1) A.2.2 (fun q => q.elim hj0 fun q => absurd hi (Nat.not_lt.mpr q)) (A3 _ hi) (g := mkF m pc Ls (.int j :: .ref a :: st)) rfl rfl (hb hc hd) _ h1, r2⟩
theorem Walk.laload {a : Addr} {n i : Nat} {f : Nat → Value} {j : Int32} {v : Value} (F : Av Z h a .long n f) (hd : decode B pc = .ok (.laload, 1)) (hj0 : ¬ j < 0) (hj : j.toNatClampNeg = i) (hi : i < n) (hv : f i = v)
    (k : Walk Z own nm rt B ml R h0 W Q ws Ts Li h cells slots pc' Ls (v :: st)) (hp : pc + 1 = pc' := by rfl) : Walk Z own nm rt B ml R h0 W Q ws Ts Li h cells slots pc Ls (.int j :: .ref a :: st) := by
  intro p l e s m args below meth c T locs ho
  obtain ⟨s₂, o, h1, r2⟩ := k p l e s m args below meth c T locs ho
  obtain ⟨vm0, k0, X, hx, eT, a2, a3, a4, a5, a6, a7, a8, a9, a10, hc, r⟩ := ho
  obtain ⟨cl, A, A1, A2, A3⟩ := F
  subst hp hv A1 hj
  exact ⟨s₂, o, X.laload hx (by rw [eT]; exact A.1) (State.isArrayOf_alike a4.alike A.2.1) A.2.2 (fun q => q.elim hj0 fun q => absurd hi (Nat.not_lt.mpr q)) (A3 _ hi) (g := mkF m pc Ls (.int j :: .ref a :: st)) rfl rfl (hb hc hd) _ h1, r2⟩
theorem Walk.caload {a : Addr} {n i : Nat} {f : Nat → Value} {j : Int32} {v : Value} (F : Av Z h a .char n f) (hd : decode B pc = .ok (.caload, 1)) (hj0 : ¬ j < 0) (hj : j.toNatClampNeg = i) (hi : i < n) (hv : f i = v)
    (k : Walk Z own nm rt B ml R h0 W Q ws Ts Li h cells slots pc' Ls (v :: st)) (hp : pc + 1 = pc' := by rfl) : Walk Z own nm rt B ml R h0 W Q ws Ts Li h cells slots pc Ls (.int j :: .ref a :: st) := by
  intro p l e s m args below meth c T locs ho
  obtain ⟨s₂, o, h1, r2⟩ := k p l e s m args below meth c T locs ho
  obtain ⟨vm0, k0, X, hx, eT, a2, a3, a4, a5, a6, a7, a8, a9, a10, hc, r⟩ := ho
  obtain ⟨cl, A, A1, A2, A3⟩ := F
  subst hp hv A1 hj
  exact ⟨s₂, o, X.caload hx (by rw [eT]; exact A.1) (State.isArrayOf_alike a4.alike A.2.1) A.2.2 (fun q => q.elim hj0 fun q => absurd hi (Nat.not_lt.mpr q)) (A3 _ hi) (g := mkF m pc Ls (.int j :: .ref a :: st)) rfl rfl (hb hc hd) _ h1, r2⟩
theorem Walk.saload {a : Addr} {n i : Nat} {f : Nat → Value} {j : Int32} {v : Value} (F : Av Z h a .short n f) (hd : decode B pc = .ok (.saload, 1)) (hj0 : ¬ j < 0) (hj : j.toNatClampNeg = i) (hi : i < n) (hv : f i = v)
    (k : Walk Z own nm rt B ml R h0 W Q ws Ts Li h cells slots pc' Ls (v :: st)) (hp : pc + 1 = pc' := by rfl) : Walk Z own nm rt B ml R h0 W Q ws Ts Li h cells slots pc Ls (.int j :: .ref a :: st) := by
  intro p l e s m args below meth c T locs ho
  obtain ⟨s₂, o, h1, r2⟩ := k p l e s m args below meth c T locs ho
  obtain ⟨vm0, k0, X, hx, eT, a2, a3, a4, a5, a6, a7, a8, a9, a10, hc, r⟩ := ho
  obtain ⟨cl, A, A1, A2, A3⟩ := F
  subst hp hv A1 hj
  exact ⟨s₂, o, X.saload hx (by rw [eT]; exact A.1) (State.isArrayOf_alike a4.alike A.2.1) A.2.2 (fun q => q.elim hj0 fun q => absurd hi (Nat.not_lt.mpr q)) (A3 _ hi) (g := mkF m pc Ls (.int j :: .ref a :: st)) rfl rfl (hb hc hd) _ h1, r2⟩
theorem Walk.baload {a : Addr} {n i : Nat} {f : Nat → Value} {j : Int32} {v : Value} (F : Av Z h a .byte n f) (hd : decode B pc = .ok (.baload, 1)) (hj0 : ¬ j < 0) (hj : j.toNatClampNeg = i) (hi : i < n) (hv : f i = v)
    (k : Walk Z own nm rt B ml R h0 W Q ws Ts Li h cells slots pc' Ls (v :: st)) (hp : pc + 1 = pc' := by rfl) : Walk Z own nm rt B ml R h0 W Q ws Ts Li h cells slots pc Ls (.int j :: .ref a :: st) := by
  intro p l e s m args below meth c T locs ho
  obtain ⟨s₂, o, h1, r2⟩ := k p l e s m args below meth c T locs ho
  obtain ⟨vm0, k0, X, hx, eT, a2, a3, a4, a5, a6, a7, a8, a9, a10, hc, r⟩ := ho
  obtain ⟨cl, A, A1, A2, A3⟩ := F
  subst hp hv A1 hj
  exact ⟨s₂, o, X.baloadBytes hx (by rw [eT]; exact A.1) (State.isArrayOf_alike a4.alike A.2.1) A.2.2 (fun q => q.elim hj0 fun q => absurd hi (Nat.not_lt.mpr q)) (A3 _ hi) (g := mkF m pc Ls (.int j :: .ref a :: st)) rfl rfl (hb hc hd) _ h1, r2⟩
theorem Walk.zaload {a : Addr} {n i : Nat} {f : Nat → Value} {j : Int32} {v : Value} (F : Av Z h a .boolean n f) (hd : decode B pc = .ok (.baload, 1)) (hj0 : ¬ j < 0) (hj : j.toNatClampNeg = i) (hi : i < n) (hv : f i = v)
    (k : Walk Z own nm rt B ml R h0 W Q ws Ts Li h cells slots pc' Ls (v :: st)) (hp : pc + 1 = pc' := by rfl) : Walk Z own nm rt B ml R h0 W Q ws Ts Li h cells slots pc Ls (.int j :: .ref a :: st) := by
  intro p l e s m args below meth c T locs ho
  obtain ⟨s₂, o, h1, r2⟩ := k p l e s m args below meth c T locs ho
  obtain ⟨vm0, k0, X, hx, eT, a2, a3, a4, a5, a6, a7, a8, a9, a10, hc, r⟩ := ho
  obtain ⟨cl, A, A1, A2, A3⟩ := F
  subst hp hv A1 hj
  exact ⟨s₂, o, X.baloadBooleans hx (by rw [eT]; exact A.1) (State.isArrayOf_alike a4.alike A.2.1) A.2.2 (fun q => q.elim hj0 fun q => absurd hi (Nat.not_lt.mpr q)) (A3 _ hi) (g := mkF m pc Ls (.int j :: .ref a :: st)) rfl rfl (hb hc hd) _ h1, r2⟩
theorem Walk.aaload {a : Addr} {ty : FieldType} {n i : Nat} {f : Nat → Value} {j : Int32} {v : Value} (F : Av Z h a ty n f) (hty : ty.isReference = true) (hd : decode B pc = .ok (.aaload, 1)) (hj0 : ¬ j < 0) (hj : j.toNatClampNeg = i) (hi : i < n) (hv : f i = v)
    (k : Walk Z own nm rt B ml R h0 W Q ws Ts Li h cells slots pc' Ls (v :: st)) (hp : pc + 1 = pc' := by rfl) : Walk Z own nm rt B ml R h0 W Q ws Ts Li h cells slots pc Ls (.int j :: .ref a :: st) := by
  intro p l e s m args below meth c T locs ho
  obtain ⟨s₂, o, h1, r2⟩ := k p l e s m args below meth c T locs ho
  obtain ⟨vm0, k0, X, hx, eT, a2, a3, a4, a5, a6, a7, a8, a9, a10, hc, r⟩ := ho
  obtain ⟨cl, A, A1, A2, A3⟩ := F
  subst hp hv A1 hj
  exact ⟨s₂, o, X.aaload hx (by rw [eT]; exact A.1) (State.isArrayOf_alike a4.alike A.2.1) hty A.2.2 (fun q => q.elim hj0 fun q => absurd hi (Nat.not_lt.mpr q)) (A3 _ hi) (g := mkF m pc Ls (.int j :: .ref a :: st)) rfl rfl (hb hc hd) _ h1, r2⟩
theorem Av.wr {a : Addr} {ty : FieldType} {n i : Nat} {f : Nat → Value} {v : Value} {h' : Heap} (F : Av Z h a ty n f) (Wr' : Wr h h' a i v) : Av Z h' a ty n (fun k => if k = i then v else f k) := by
  obtain ⟨cl, A, A1, A2, A3⟩ := F
  refine ⟨_, A.same Wr', by simp [Cell.setSlot, A1], A2, fun k hk => ?_⟩
  obtain ⟨_, _, _, hlt, -⟩ := Wr'
  by_cases e : k = i
  · subst e
    simp [Cell.setSlot, A1, hk]
  · show _ = some (if k = i then v else f k)
    rw [if_neg e]
    simp only [Cell.setSlot]
    rw [Array.getElem?_setIfInBounds_ne (Ne.symm e)]; exact A3 k hk
theorem Walk.iastore {a : Addr} {n i : Nat} {f : Nat → Value} {j : Int32} {x : Int32} (F : Av Z h a .int n f) (hd : decode B pc = .ok (.iastore, 1)) (hj0 : ¬ j < 0) (hj : j.toNatClampNeg = i) (hi : i < n) (hz : Z.heap.size ≤ a) (hw : ws ⟨a, i⟩)
    (k : ∀ h', Kq h h' (fun y => y = ⟨a, i⟩) → Av Z h' a .int n (fun k => if k = i then .int x else f k) → Wr h h' a i (.int x) → Walk Z own nm rt B ml R h0 W Q ws Ts Li h' cells slots pc' Ls st) (hp : pc + 1 = pc' := by rfl) : Walk Z own nm rt B ml R h0 W Q ws Ts Li h cells slots pc Ls (.int x :: .int j :: .ref a :: st) := by
  intro p l e s m args below meth c T locs ho
  obtain ⟨vm0, k0, X, hx, eT, a2, a3, a4, a5, a6, a7, a8, a9, a10, hc, r⟩ := ho
  obtain ⟨cl, A, A1, A2, A3⟩ := id F
  subst hp hj
  obtain ⟨T', h', X', e', Wr', stp⟩ := RoadKit.stI X hx a4 eT A (x := x) (fun q => q.elim hj0 fun q => absurd hi (Nat.not_lt.mpr (A1 ▸ q))) (g := mkF m pc Ls (.int x :: .int j :: .ref a :: st)) rfl rfl (hb hc hd)
  obtain ⟨s₂, o, h1, r2⟩ := k h' (Kq.of_wr Wr') (F.wr Wr') Wr' p l e s m args below meth c T' _ ⟨vm0, k0, X', hx, e', a2, Nat.le_trans a3 (Nat.le_of_eq Wr'.size.symm), a4, a5, a6, Fr.snoc X' a7 hz, fun y hy => (List.mem_append.mp hy).elim (a8 y) fun q => by cases List.mem_singleton.mp q; exact hw, a9, a10, hc, r⟩
  exact ⟨s₂, o, stp _ h1, r2⟩
theorem Walk.lastore {a : Addr} {n i : Nat} {f : Nat → Value} {j : Int32} {x : Int64} (F : Av Z h a .long n f) (hd : decode B pc = .ok (.lastore, 1)) (hj0 : ¬ j < 0) (hj : j.toNatClampNeg = i) (hi : i < n) (hz : Z.heap.size ≤ a) (hw : ws ⟨a, i⟩)
    (k : ∀ h', Kq h h' (fun y => y = ⟨a, i⟩) → Av Z h' a .long n (fun k => if k = i then .long x else f k) → Wr h h' a i (.long x) → Walk Z own nm rt B ml R h0 W Q ws Ts Li h' cells slots pc' Ls st) (hp : pc + 1 = pc' := by rfl) : Walk Z own nm rt B ml R h0 W Q ws Ts Li h cells slots pc Ls (.long x :: .int j :: .ref a :: st) := by
  intro p l e s m args below meth c T locs ho
  obtain ⟨vm0, k0, X, hx, eT, a2, a3, a4, a5, a6, a7, a8, a9, a10, hc, r⟩ := ho
  obtain ⟨cl, A, A1, A2, A3⟩ := id F
  subst hp hj
  obtain ⟨T', h', X', e', Wr', stp⟩ := RoadKit.stJ X hx a4 eT A (x := x) (fun q => q.elim hj0 fun q => absurd hi (Nat.not_lt.mpr (A1 ▸ q))) (g := mkF m pc Ls (.long x :: .int j :: .ref a :: st)) rfl rfl (hb hc hd)
  obtain ⟨s₂, o, h1, r2⟩ := k h' (Kq.of_wr Wr') (F.wr Wr') Wr' p l e s m args below meth c T' _ ⟨vm0, k0, X', hx, e', a2, Nat.le_trans a3 (Nat.le_of_eq Wr'.size.symm), a4, a5, a6, Fr.snoc X' a7 hz, fun y hy => (List.mem_append.mp hy).elim (a8 y) fun q => by cases List.mem_singleton.mp q; exact hw, a9, a10, hc, r⟩
  exact ⟨s₂, o, stp _ h1, r2⟩
theorem Walk.castore {a : Addr} {n i : Nat} {f : Nat → Value} {j : Int32} {x : Int32} (F : Av Z h a .char n f) (hd : decode B pc = .ok (.castore, 1)) (hj0 : ¬ j < 0) (hj : j.toNatClampNeg = i) (hi : i < n) (hz : Z.heap.size ≤ a) (hw : ws ⟨a, i⟩)
    (k : ∀ h', Kq h h' (fun y => y = ⟨a, i⟩) → Av Z h' a .char n (fun k => if k = i then .int (nar .char x) else f k) → Wr h h' a i (.int (nar .char x)) → Walk Z own nm rt B ml R h0 W Q ws Ts Li h' cells slots pc' Ls st) (hp : pc + 1 = pc' := by rfl) : Walk Z own nm rt B ml R h0 W Q ws Ts Li h cells slots pc Ls (.int x :: .int j :: .ref a :: st) := by
  intro p l e s m args below meth c T locs ho
  obtain ⟨vm0, k0, X, hx, eT, a2, a3, a4, a5, a6, a7, a8, a9, a10, hc, r⟩ := ho
  obtain ⟨cl, A, A1, A2, A3⟩ := id F
  subst hp hj
  obtain ⟨T', h', X', e', Wr', stp⟩ := RoadKit.stC X hx a4 eT A (x := x) (fun q => q.elim hj0 fun q => absurd hi (Nat.not_lt.mpr (A1 ▸ q))) (g := mkF m pc Ls (.int x :: .int j :: .ref a :: st)) rfl rfl (hb hc hd)
  obtain ⟨s₂, o, h1, r2⟩ := k h' (Kq.of_wr Wr') (F.wr Wr') Wr' p l e s m args below meth c T' _ ⟨vm0, k0, X', hx, e', a2, Nat.le_trans a3 (Nat.le_of_eq Wr'.size.symm), a4, a5, a6, Fr.snoc X' a7 hz, fun y hy => (List.mem_append.mp hy).elim (a8 y) fun q => by cases List.mem_singleton.mp q; exact hw, a9, a10, hc, r⟩
  exact ⟨s₂, o, stp _ h1, r2⟩
theorem Walk.sastore {a : Addr} {n i : Nat} {f : Nat → Value} {j : Int32} {x : Int32} (F : Av Z h a .short n f) (hd : decode B pc = .ok (.sastore, 1)) (hj0 : ¬ j < 0) (hj : j.toNatClampNeg = i) (hi : i < n) (hz : Z.heap.size ≤ a) (hw : ws ⟨a, i⟩)
    (k : ∀ h', Kq h h' (fun y => y = ⟨a, i⟩) → Av Z h' a .short n (fun k => if k = i then .int (nar .short x) else f k) → Wr h h' a i (.int (nar .short x)) → Walk Z own nm rt B ml R h0 W Q ws Ts Li h' cells slots pc' Ls st) (hp : pc + 1 = pc' := by rfl) : Walk Z own nm rt B ml R h0 W Q ws Ts Li h cells slots pc Ls (.int x :: .int j :: .ref a :: st) := by
  intro p l e s m args below meth c T locs ho
  obtain ⟨vm0, k0, X, hx, eT, a2, a3, a4, a5, a6, a7, a8, a9, a10, hc, r⟩ := ho
  obtain ⟨cl, A, A1, A2, A3⟩ := id F
  subst hp hj
  obtain ⟨T', h', X', e', Wr', stp⟩ := RoadKit.stS X hx a4 eT A (x := x) (fun q => q.elim hj0 fun q => absurd hi (Nat.not_lt.mpr (A1 ▸ q))) (g := mkF m pc Ls (.int x :: .int j :: .ref a :: st)) rfl rfl (hb hc hd)
  obtain ⟨s₂, o, h1, r2⟩ := k h' (Kq.of_wr Wr') (F.wr Wr') Wr' p l e s m args below meth c T' _ ⟨vm0, k0, X', hx, e', a2, Nat.le_trans a3 (Nat.le_of_eq Wr'.size.symm), a4, a5, a6, Fr.snoc X' a7 hz, fun y hy => (List.mem_append.mp hy).elim (a8 y) fun q => by cases List.mem_singleton.mp q; exact hw, a9, a10, hc, r⟩
  exact ⟨s₂, o, stp _ h1, r2⟩
theorem Walk.bastore {a : Addr} {n i : Nat} {f : Nat → Value} {j : Int32} {x : Int32} (F : Av Z h a .byte n f) (hd : decode B pc = .ok (.bastore, 1)) (hj0 : ¬ j < 0) (hj : j.toNatClampNeg = i) (hi : i < n) (hz : Z.heap.size ≤ a) (hw : ws ⟨a, i⟩)
    (k : ∀ h', Kq h h' (fun y => y = ⟨a, i⟩) → Av Z h' a .byte n (fun k => if k = i then .int (nar .byte x) else f k) → Wr h h' a i (.int (nar .byte x)) → Walk Z own nm rt B ml R h0 W Q ws Ts Li h' cells slots pc' Ls st) (hp : pc + 1 = pc' := by rfl) : Walk Z own nm rt B ml R h0 W Q ws Ts Li h cells slots pc Ls (.int x :: .int j :: .ref a :: st) := by
  intro p l e s m args below meth c T locs ho
  obtain ⟨vm0, k0, X, hx, eT, a2, a3, a4, a5, a6, a7, a8, a9, a10, hc, r⟩ := ho
  obtain ⟨cl, A, A1, A2, A3⟩ := id F
  subst hp hj
  obtain ⟨T', h', X', e', Wr', stp⟩ := RoadKit.stB X hx a4 eT A (x := x) (fun q => q.elim hj0 fun q => absurd hi (Nat.not_lt.mpr (A1 ▸ q))) (g := mkF m pc Ls (.int x :: .int j :: .ref a :: st)) rfl rfl (hb hc hd)
  obtain ⟨s₂, o, h1, r2⟩ := k h' (Kq.of_wr Wr') (F.wr Wr') Wr' p l e s m args below meth c T' _ ⟨vm0, k0, X', hx, e', a2, Nat.le_trans a3 (Nat.le_of_eq Wr'.size.symm), a4, a5, a6, Fr.snoc X' a7 hz, fun y hy => (List.mem_append.mp hy).elim (a8 y) fun q => by cases List.mem_singleton.mp q; exact hw, a9, a10, hc, r⟩
  exact ⟨s₂, o, stp _ h1, r2⟩
theorem Walk.zastore {a : Addr} {n i : Nat} {f : Nat → Value} {j : Int32} {x : Int32} (F : Av Z h a .boolean n f) (hd : decode B pc = .ok (.bastore, 1)) (hj0 : ¬ j < 0) (hj : j.toNatClampNeg = i) (hi : i < n) (hz : Z.heap.size ≤ a) (hw : ws ⟨a, i⟩)
    (k : ∀ h', Kq h h' (fun y => y = ⟨a, i⟩) → Av Z h' a .boolean n (fun k => if k = i then .int (nar .boolean x) else f k) → Wr h h' a i (.int (nar .boolean x)) → Walk Z own nm rt B ml R h0 W Q ws Ts Li h' cells slots pc' Ls st) (hp : pc + 1 = pc' := by rfl) : Walk Z own nm rt B ml R h0 W Q ws Ts Li h cells slots pc Ls (.int x :: .int j :: .ref a :: st) := by
  intro p l e s m args below meth c T locs ho
  obtain ⟨vm0, k0, X, hx, eT, a2, a3, a4, a5, a6, a7, a8, a9, a10, hc, r⟩ := ho
  obtain ⟨cl, A, A1, A2, A3⟩ := id F
  subst hp hj
  obtain ⟨T', h', X', e', Wr', stp⟩ := RoadKit.stZ X hx a4 eT A (x := x) (fun q => q.elim hj0 fun q => absurd hi (Nat.not_lt.mpr (A1 ▸ q))) (g := mkF m pc Ls (.int x :: .int j :: .ref a :: st)) rfl rfl (hb hc hd)
  obtain ⟨s₂, o, h1, r2⟩ := k h' (Kq.of_wr Wr') (F.wr Wr') Wr' p l e s m args below meth c T' _ ⟨vm0, k0, X', hx, e', a2, Nat.le_trans a3 (Nat.le_of_eq Wr'.size.symm), a4, a5, a6, Fr.snoc X' a7 hz, fun y hy => (List.mem_append.mp hy).elim (a8 y) fun q => by cases List.mem_singleton.mp q; exact hw, a9, a10, hc, r⟩
  exact ⟨s₂, o, stp _ h1, r2⟩
/-! ### calls -/
/-- who pays a call -/
def Pay (Z : State) (y : MethodName) (R : Room) (len Wd : Nat) (as : List Value) (h : Heap) (Ts : TsT) (Li : LiT) (k n : Nat) (V : Loc → Prop) (P : QT) : Prop :=
  ∀ l p e below s args, Z.Warmed39 s.vm → LS Z s.vm Ts Li → Ext Z.heap h → BackS l R p e below s args y len Wd (fun A a => a = as.toArray ∧ A.U.heap = h ∧ A.cells + k ≤ R.cells ∧ A.slots + n ≤ R.slots)
    (fun A _ v B => ∃ L Ts' Li', P v B.U.heap Ts' Li' ∧ LS Z B.U.vm Ts' Li' ∧ Fr Z.heap.size L ∧ (∀ y ∈ L, Fw h V y) ∧ Kq h B.U.heap V ∧ B.locs = A.locs ++ L ∧ B.cells = A.cells + k ∧ B.slots = A.slots + n)
theorem Kq.of_end {s t : State} {o : Outcome} {L : List Loc} {k n : Nat} {V : Loc → Prop} (hE : ReturnedEndW s o t L k n) (q : ∀ y ∈ L, Fw s.heap V y) : Kq s.heap t.heap V := by
  obtain ⟨-, -, -, hs⟩ := hE
  refine ⟨hs.2.1, fun a cl hcl => ?_⟩
  obtain ⟨c', h1, h2, h3, h4⟩ := hs.2.2.2.2.2 a cl hcl
  have hlt := (Array.getElem?_eq_some_iff.mp hcl).1
  refine ⟨c', h1, by rw [h2], by rw [h2], h3, fun i hi => h4 i fun hm => ?_⟩
  rcases q _ hm with r | r
  · exact absurd r (Nat.not_le.mpr hlt)
  · exact hi r
theorem Con.pay {y : MethodName} {bytes : ByteArray} {maxL : Nat} {ret : Option FieldType} {rm : Room} {as : List Value} {V : Loc → Prop} {P : QT} {len Wd : Nat} (hM : Con Z y bytes maxL ret rm as h Ts Li V P) (wc : (Cond.code y bytes maxL ret).before a0 Z = true) (wz : (Cond.initialized y.cls).before a0 Z = true)
    (hf : rm.frames + 1 ≤ R.frames) (hl : Wd + (maxL + 11) + rm.locals ≤ R.locals) : Pay Z y R len Wd as h Ts Li rm.cells rm.slots V P := by
  intro l p e below s args hZ hL hE
  exact BackS.of_freeW (bytes := bytes) (maxL := maxL) (ret := ret) (E := fun _ first o t L k n => k = rm.cells ∧ n = rm.slots ∧ ∃ v Ts' Li', o = .returned v ∧ P v t.heap Ts' Li' ∧ LS Z t.vm Ts' Li' ∧ Fr Z.heap.size L ∧ (∀ y ∈ L, Fw h V y)) (hM l []) hf hl
    (fun m meth c A a Y hp => have hU : Z.Warmed39 A.U.vm := wtrans hZ Y.warmed
      ⟨by show (Cond.and _ .tt).before a A.U = true; rw [Cond.before_and, mv hU wc]; rfl, mv hU wc, mv hU wz, hp.2.2.1, hp.2.2.2⟩)
    (fun m meth c A a g mk Y hp => ⟨hp.1, wtrans hZ Y.warmed, hp.2.1, by rw [show (A.U.calling g mk a).heap = A.U.heap from rfl, hp.2.1]; exact hE, LS.warm (s := s) hL Y.warmed⟩) (fun _ _ _ _ _ _ _ _ _ => trivial)
    (fun _ _ _ _ ⟨v, L, Ts', Li', h1, h2, h3, h4, h5, h6⟩ => ⟨L, _, _, h6, rfl, rfl, v, Ts', Li', h1, h2, h3, h4, h5⟩)
    (fun m meth c A a g mk v t L k n Y hp hq hr ⟨e1, e2, v', Ts', Li', e3, e4, e5, e6, e7⟩ => by
      cases e3; subst e1 e2
      have e0 : (A.U.calling g mk a).heap = h := hp.2.1
      have e8 : Kq h t.heap V := e0 ▸ Kq.of_end hr (e0 ▸ e7)
      exact ⟨L, Ts', Li', e4, e5, e6, e7, e8, rfl, rfl, rfl⟩)
/-- a payer of the library's own (it interns nothing) -/
theorem Pay.of_back {y : MethodName} {len Wd : Nat} {as : List Value} {k n : Nat} {P : Option Value → Heap → List Loc → Prop} {V : Loc → Prop}
    (hB : ∀ l p e below s args, Z.Warmed39 s.vm → Back l R p e below s args y len Wd (fun A a => a = as.toArray ∧ A.U.heap = h ∧ A.cells + k ≤ R.cells ∧ A.slots + n ≤ R.slots) (fun A _ v B => ∃ L, P v B.U.heap L ∧ B.locs = A.locs ++ L ∧ B.cells = A.cells + k ∧ B.slots = A.slots + n))
    (hK : ∀ v h' L, P v h' L → Fr Z.heap.size L ∧ (∀ y ∈ L, Fw h V y) ∧ Kq h h' V) : Pay Z y R len Wd as h Ts Li k n V (fun v h' Ts' Li' => (∃ L, P v h' L) ∧ Ts' = Ts ∧ Li' = Li) := by
  intro l p e below s args hZ hL hE m meth c A g ig mk a X hg hsize hdg hW hn hp
  obtain ⟨v, B, X', ⟨L, hq, e1, e2, e3⟩, hst⟩ := hB l p e below s args hZ m meth c A g ig mk a X hg hsize hdg hW hn hp
  obtain ⟨k1, k2, k3⟩ := hK _ _ _ hq
  exact ⟨v, B, X'.retabled X'.warmed.wide, X'.warmed.since _, by rw [hp.2.1]; exact k3.1, ⟨L, Ts, Li, ⟨⟨L, hq⟩, rfl, rfl⟩, LS.warm (s := s) hL X'.warmed, k1, k2, k3, e1, e2, e3⟩, hst⟩
theorem Pay.mono {y : MethodName} {len Wd : Nat} {as : List Value} {k n : Nat} {P P' : QT} {V : Loc → Prop} (hP : Pay Z y R len Wd as h Ts Li k n V P) (hq : ∀ v h' Ts' Li', Kq h h' V → P v h' Ts' Li' → P' v h' Ts' Li') : Pay Z y R len Wd as h Ts Li k n V P' := by
  intro l p e below s args hZ hL hE m meth c A g ig mk a X hg hsize hdg hW hn hp
  obtain ⟨v, B, X', r1, r2, ⟨L, Ts', Li', q1, q2, q3, q4, q5, q6⟩, hst⟩ := hP l p e below s args hZ hL hE m meth c A g ig mk a X hg hsize hdg hW hn hp
  exact ⟨v, B, X', r1, r2, ⟨L, Ts', Li', hq _ _ _ _ q5 q1, q2, q3, q4, q5, q6⟩, hst⟩
/-- behind a call: the walk stands again -/
theorem On.after {p : Program} {l : Launch} {e : Env} {s : State} {m : MethodId} {args : Array Value} {below : List Frame} {meth : Method} {c : Code} {T : State} {locs : List Loc} {k n : Nat} {V : Loc → Prop} {vm0 : Vm} {k0 : Nat}
    (hx : p.tables.exec = Jvm.exec) (eT : T.heap = h) (a2 : s.Since vm0 k0) (a3 : k0 ≤ h.size) (a4 : Z.Warmed39 vm0) (a5 : vm0.findClass own = some m.cls) (a7 : Fr Z.heap.size locs) (a8 : ∀ y ∈ locs, ws y)
    (r : s.heap = h0 ∧ Ext Z.heap s.heap ∧ c.code = B ∧ c.maxLocals = ml ∧ meth.name = nm ∧ meth.sig.returnType = rt ∧ meth.locks = false) (hv : ∀ y, Fw h V y → ws y)
    {BU : State} {Bl : List Loc} {Bc Bs : Nat} (X' : Stand p l e R ((s.setVm vm0).setVm BU.vm) m args below meth c BU Bl Bc Bs) (hS : (s.setVm vm0).Since BU.vm BU.heap.size) (hg : T.heap.size ≤ BU.heap.size)
    {L : List Loc} {Ts' : TsT} {Li' : LiT} (q2 : LS Z BU.vm Ts' Li') (q3 : Fr Z.heap.size L) (q4 : ∀ y ∈ L, Fw h V y) (e1 : Bl = locs ++ L) (e2 : Bc = cells + k) (e3 : Bs = slots + n) :
    On Z own nm rt B ml R h0 ws p l e s m args below meth c Ts' Li' BU BU.heap (locs ++ L) (cells + k) (slots + n) := by
  subst e1 e2 e3
  exact ⟨BU.vm, BU.heap.size, X', hx, rfl, a2.trans hS (Nat.le_trans a3 (eT ▸ hg)), Nat.le_refl _, State.Warmed39.trans (t := s.setVm vm0) a4 hS.1, (hS.1.alike.findClass _ _).trans a5, q2, Fr.app a7 q3, fun y hy => (List.mem_append.mp hy).elim (a8 y) fun q => hv _ (q4 y q), r⟩
theorem Walk.callS {index : Nat} {y : MethodName} {bytes : ByteArray} {maxL : Nat} {ret : Option FieldType} {Wd : Nat} {as rest : List Value} {k n : Nat} {V : Loc → Prop} {P : QT}
    (wl : (Cond.methodLink own index y).before a0 Z = true) (ws1 : (Cond.static y).before a0 Z = true) (wi : (Cond.initialized y.cls).before a0 Z = true) (wc : (Cond.code y bytes maxL ret).before a0 Z = true) (hP : Pay Z y R 3 Wd as h Ts Li k n V P)
    (hlen : ∀ sig, parseMethodDescriptor y.desc = some sig → as.length = sig.parameters.length) (hd : decode B pc = .ok (.invokestatic index, 3)) (hst : st = as.reverse ++ rest) (hW : (rest.map fun v => v.category).sum ≤ Wd) (hsz : Ls.size = ml) (hc1 : cells + k ≤ R.cells) (hl1 : slots + n ≤ R.slots) (hv : h0.size ≤ h.size → ∀ y, Fw h V y → ws y)
    (kk : ∀ v h' Ts' Li', P v h' Ts' Li' → Kq h h' V → Walk Z own nm rt B ml R h0 W Q ws Ts' Li' h' (cells + k) (slots + n) pc' Ls (v.toList ++ rest)) (hy : y.cls ≠ "java/lang/invoke/MethodHandle" ∧ y.cls ≠ "java/lang/invoke/VarHandle" := by decide) (hp : pc + 3 = pc' := by rfl) :
    Walk Z own nm rt B ml R h0 W Q ws Ts Li h cells slots pc Ls st := by
  refine Walk.old fun E => ?_
  intro p l e s m args below meth c T locs ho
  obtain ⟨vm0, k0, X, hx, eT, a2, a3, a4, a5, a6, a7, a8, a9, a10, hc, b1, r⟩ := ho
  obtain ⟨v, vm₁, B', -, X', hS, hg, ⟨L, Ts', Li', q1, q2, q3, q4, q5, e1, e2, e3⟩, stp⟩ := RoadKit.callSS X hx (y := y) a5 (mvT a4 wl) (mvT a4 ws1) (mvT a4 wi) (mvT a4 wc) hy (hP l p e below _ args a4 a6 E) (g := mkF m pc Ls st) rfl (hsz.trans b1.symm) (argsL := as) (rest := rest) hlen hst (by show 2 * 0 + _ ≤ _; omega) (hb hc hd) (fun _ _ => ⟨rfl, eT, hc1, hl1⟩)
  subst hp
  obtain ⟨s₂, o, h1, r2⟩ := kk v _ Ts' Li' q1 q5 p l e s m args below meth c B'.U _ (On.after (k := k) (n := n) hx eT a2 a3 a4 a5 a7 a8 ⟨a9, a10, hc, b1, r⟩ (hv (by rw [← a9, ← eT]; exact X.same.2.1)) X' hS hg q2 q3 q4 e1 e2 e3)
  exact ⟨s₂, o, stp.trans h1, r2⟩
theorem Walk.callI {index : Nat} {y : MethodName} {bytes : ByteArray} {maxL : Nat} {Wd : Nat} {a : Addr} {as rest : List Value} {k n : Nat} {V : Loc → Prop} {P : QT}
    (wl : (Cond.methodLink own index y).before a0 Z = true) (ws1 : (Cond.instanceMethod y).before a0 Z = true) (wc : (Cond.code y bytes maxL none).before a0 Z = true) (hP : Pay Z y R 3 Wd (.ref a :: as) h Ts Li k n V P)
    (hlen : ∀ sig, parseMethodDescriptor y.desc = some sig → as.length = sig.parameters.length) (hd : decode B pc = .ok (.invokespecial index, 3)) (hst : st = as.reverse ++ .ref a :: rest) (hW : (rest.map fun v => v.category).sum ≤ Wd) (hsz : Ls.size = ml) (hc1 : cells + k ≤ R.cells) (hl1 : slots + n ≤ R.slots) (hv : h0.size ≤ h.size → ∀ y, Fw h V y → ws y)
    (kk : ∀ v h' Ts' Li', P v h' Ts' Li' → Kq h h' V → Walk Z own nm rt B ml R h0 W Q ws Ts' Li' h' (cells + k) (slots + n) pc' Ls (v.toList ++ rest)) (hy1 : y.name = "<init>" := by rfl) (hy : y.cls ≠ "java/lang/invoke/MethodHandle" ∧ y.cls ≠ "java/lang/invoke/VarHandle" := by decide) (hp : pc + 3 = pc' := by rfl) :
    Walk Z own nm rt B ml R h0 W Q ws Ts Li h cells slots pc Ls st := by
  refine Walk.old fun E => ?_
  intro p l e s m args below meth c T locs ho
  obtain ⟨vm0, k0, X, hx, eT, a2, a3, a4, a5, a6, a7, a8, a9, a10, hc, b1, r⟩ := ho
  obtain ⟨v, vm₁, B', -, X', hS, hg, ⟨L, Ts', Li', q1, q2, q3, q4, q5, e1, e2, e3⟩, stp⟩ := X.specialBackS hx (y := y) hy1 a5 (mvT a4 wl) (mvT a4 ws1) (mvT a4 wc) hy (hP l p e below _ args a4 a6 E) (g := mkF m pc Ls st) rfl (hsz.trans b1.symm) (Steps.refl _) (a := a) (argsL := as) (rest := rest) hlen hst (by show 2 * 0 + _ ≤ _; omega) (hb hc hd) (fun _ _ => ⟨rfl, eT, hc1, hl1⟩)
  subst hp
  obtain ⟨s₂, o, h1, r2⟩ := kk v _ Ts' Li' q1 q5 p l e s m args below meth c B'.U _ (On.after (k := k) (n := n) hx eT a2 a3 a4 a5 a7 a8 ⟨a9, a10, hc, b1, r⟩ (hv (by rw [← a9, ← eT]; exact X.same.2.1)) X' hS hg q2 q3 q4 e1 e2 e3)
  exact ⟨s₂, o, stp.trans h1, r2⟩
theorem Walk.callV {index : Nat} {C : String} {y z : MethodName} {Wd : Nat} {a : Addr} {as rest : List Value} {k n : Nat} {V : Loc → Prop} {P : QT}
    (wl : (Cond.methodLink own index y).before a0 Z = true) (wd : (Cond.declares y).before a0 Z = true) (wf : (Cond.selects y.cls y y).before a0 Z = true) (wsl : (Cond.selects C y z).before a0 Z = true) (wim : (Cond.instanceMethod z).before a0 Z = true) (Ex : Exa Z h a C) (hP : Pay Z z R 3 Wd (.ref a :: as) h Ts Li k n V P)
    (hlen : ∀ sig, parseMethodDescriptor y.desc = some sig → as.length = sig.parameters.length) (hd : decode B pc = .ok (.invokevirtual index, 3)) (hst : st = as.reverse ++ .ref a :: rest) (hW : (rest.map fun v => v.category).sum ≤ Wd) (hsz : Ls.size = ml) (hc1 : cells + k ≤ R.cells) (hl1 : slots + n ≤ R.slots) (hv : h0.size ≤ h.size → ∀ y, Fw h V y → ws y)
    (kk : ∀ v h' Ts' Li', P v h' Ts' Li' → Kq h h' V → Walk Z own nm rt B ml R h0 W Q ws Ts' Li' h' (cells + k) (slots + n) pc' Ls (v.toList ++ rest)) (hy : y.cls ≠ "java/lang/invoke/MethodHandle" ∧ y.cls ≠ "java/lang/invoke/VarHandle" := by decide) (hp : pc + 3 = pc' := by rfl) :
    Walk Z own nm rt B ml R h0 W Q ws Ts Li h cells slots pc Ls st := by
  refine Walk.old fun E => ?_
  intro p l e s m args below meth c T locs ho
  obtain ⟨vm0, k0, X, hx, eT, a2, a3, a4, a5, a6, a7, a8, a9, a10, hc, b1, r⟩ := ho
  obtain ⟨cB, kB, i1, i2, i3⟩ := isOf (s := s.setVm vm0) a4 eT Ex
  obtain ⟨v, vm₁, B', -, X', hS, hg, ⟨L, Ts', Li', q1, q2, q3, q4, q5, e1, e2, e3⟩, stp⟩ := X.virtualBackS hx (y := y) (z := z) a5 (mvT a4 wl) (mvT a4 wd) (notFace_of_selects (args := #[]) (mvT a4 wf)) (mvT a4 wsl) (mvT a4 wim) hy (hP l p e below _ args a4 a6 E) i1 i3 (g := mkF m pc Ls st) rfl (hsz.trans b1.symm) (Steps.refl _) (argsL := as) (rest := rest) hlen hst (by show 2 * 0 + _ ≤ _; omega) (hb hc hd) (fun _ _ => ⟨rfl, eT, hc1, hl1⟩)
  subst hp
  obtain ⟨s₂, o, h1, r2⟩ := kk v _ Ts' Li' q1 q5 p l e s m args below meth c B'.U _ (On.after (k := k) (n := n) hx eT a2 a3 a4 a5 a7 a8 ⟨a9, a10, hc, b1, r⟩ (hv (by rw [← a9, ← eT]; exact X.same.2.1)) X' hS hg q2 q3 q4 e1 e2 e3)
  exact ⟨s₂, o, stp.trans h1, r2⟩
/-- Object.<init> -/
theorem Walk.initO {index : Nat} {a : Addr} (w1 : (Cond.methodLink own index Lib.objectInit).before a0 Z = true) (w2 : (Cond.instanceMethod Lib.objectInit).before a0 Z = true) (w3 : (Cond.code Lib.objectInit ⟨#[0xb1]⟩ 1 none).before a0 Z = true)
    (hd : decode B pc = .ok (.invokespecial index, 3)) (hsz : Ls.size = ml) {Wd : Nat} (hW : (st.map fun v => v.category).sum ≤ Wd) (hfr : 1 ≤ R.frames) (hlo : Wd + 12 ≤ R.locals) (k : Walk Z own nm rt B ml R h0 W Q ws Ts Li h cells slots pc' Ls st) (hp : pc + 3 = pc' := by rfl) : Walk Z own nm rt B ml R h0 W Q ws Ts Li h cells slots pc Ls (.ref a :: st) := by
  intro p l e s m args below meth c T locs ho
  obtain ⟨vm0, k0, X, hx, eT, a2, a3, a4, a5, a6, a7, a8, a9, a10, hc, b1, r⟩ := ho
  obtain ⟨T', X', e', stp⟩ := RoadKit.initO X hx a4 a5 w1 w2 w3 eT (g := mkF m pc Ls (.ref a :: st)) rfl (hsz.trans b1.symm) rfl (hb hc hd) hfr (W := Wd) (by show 2 * 0 + _ ≤ _; omega) hlo
  subst hp
  obtain ⟨s₂, o, h1, r2⟩ := k p l e s m args below meth c T' locs ⟨vm0, k0, X', hx, e', a2, a3, a4, a5, a6, a7, a8, a9, a10, hc, b1, r⟩
  exact ⟨s₂, o, stp _ h1, r2⟩
/-! ### constants -/
theorem Walk.ldcI {index : Nat} {v : Int32} (w : (Cond.constant own index v).before a0 Z = true) (hd : decode B pc = .ok (.ldc index, 2)) (k : Walk Z own nm rt B ml R h0 W Q ws Ts Li h cells slots pc' Ls (.int v :: st)) (hp : pc + 2 = pc' := by rfl) : Walk Z own nm rt B ml R h0 W Q ws Ts Li h cells slots pc Ls st := by
  intro p l e s m args below meth c T locs ho
  obtain ⟨s₂, o, h1, r2⟩ := k p l e s m args below meth c T locs ho
  obtain ⟨vm0, k0, X, hx, eT, a2, a3, a4, a5, a6, a7, a8, a9, a10, hc, r⟩ := ho
  subst hp
  exact ⟨s₂, o, X.ldcI (g := mkF m pc Ls st) hx a5 (mvT a4 w) rfl (hb hc hd) h1, r2⟩
theorem Walk.ldcJ {index : Nat} {v : Int64} (w : (Cond.constantLong own index v).before a0 Z = true) (hd : decode B pc = .ok (.ldc2_w index, 3)) (k : Walk Z own nm rt B ml R h0 W Q ws Ts Li h cells slots pc' Ls (.long v :: st)) (hp : pc + 3 = pc' := by rfl) : Walk Z own nm rt B ml R h0 W Q ws Ts Li h cells slots pc Ls st := by
  intro p l e s m args below meth c T locs ho
  obtain ⟨s₂, o, h1, r2⟩ := k p l e s m args below meth c T locs ho
  obtain ⟨vm0, k0, X, hx, eT, a2, a3, a4, a5, a6, a7, a8, a9, a10, hc, r⟩ := ho
  subst hp
  exact ⟨s₂, o, X.ldc2J (g := mkF m pc Ls st) hx a5 (mvT a4 w) rfl (hb hc hd) h1, r2⟩
theorem Walk.lswHit {x : Int32} {dflt : Int} {prs : Array (Int × Int)} {len : Nat} {a off : Int} (hd : decode B pc = .ok (.lookupswitch dflt prs, len)) (hso : (prs.toList.zip (prs.toList.drop 1)).all (fun (a, next) => a.1 < next.1) = true) (hf : prs.find? (·.1 == x.toInt) = some (a, off))
    (k : Walk Z own nm rt B ml R h0 W Q ws Ts Li h cells slots pc' Ls st) (ho1 : 0 ≤ (pc : Int) + off := by decide) (hp : ((pc : Int) + off).toNat = pc' := by rfl) : Walk Z own nm rt B ml R h0 W Q ws Ts Li h cells slots pc Ls (.int x :: st) := by
  intro p l e s m args below meth c T locs ho
  obtain ⟨s₂, o, h1, r2⟩ := k p l e s m args below meth c T locs ho
  obtain ⟨vm0, k0, X, hx, eT, a2, a3, a4, a5, a6, a7, a8, a9, a10, hc, r⟩ := ho
  subst hp
  exact ⟨s₂, o, X.lookupswitchHit hx (g := mkF m pc Ls (.int x :: st)) rfl rfl (hb hc hd) hso hf ho1 _ h1, r2⟩
theorem Walk.lswMiss {x : Int32} {dflt : Int} {prs : Array (Int × Int)} {len : Nat} (hd : decode B pc = .ok (.lookupswitch dflt prs, len)) (hso : (prs.toList.zip (prs.toList.drop 1)).all (fun (a, next) => a.1 < next.1) = true) (hf : prs.find? (·.1 == x.toInt) = none)
    (k : Walk Z own nm rt B ml R h0 W Q ws Ts Li h cells slots pc' Ls st) (ho1 : 0 ≤ (pc : Int) + dflt := by decide) (hp : ((pc : Int) + dflt).toNat = pc' := by rfl) : Walk Z own nm rt B ml R h0 W Q ws Ts Li h cells slots pc Ls (.int x :: st) := by
  intro p l e s m args below meth c T locs ho
  obtain ⟨s₂, o, h1, r2⟩ := k p l e s m args below meth c T locs ho
  obtain ⟨vm0, k0, X, hx, eT, a2, a3, a4, a5, a6, a7, a8, a9, a10, hc, r⟩ := ho
  subst hp
  exact ⟨s₂, o, X.lookupswitchMiss hx (g := mkF m pc Ls (.int x :: st)) rfl rfl (hb hc hd) hso hf ho1 _ h1, r2⟩
theorem Walk.tswIn {x : Int32} {dflt low high off : Int} {offs : Array Int} {len : Nat} (hd : decode B pc = .ok (.tableswitch dflt low high offs, len)) (hin : ¬ (x.toInt < low ∨ x.toInt > high)) (hoff : offs[(x.toInt - low).toNat]? = some off)
    (k : Walk Z own nm rt B ml R h0 W Q ws Ts Li h cells slots pc' Ls st) (ho1 : 0 ≤ (pc : Int) + off := by decide) (hp : ((pc : Int) + off).toNat = pc' := by rfl) : Walk Z own nm rt B ml R h0 W Q ws Ts Li h cells slots pc Ls (.int x :: st) :=
  Walk.lift (fun _ _ _ _ _ _ _ h hx hc r => XS.tswIn h hx rfl (pc0 := pc) (pc' := pc') rfl (hb hc hd) rfl hin hoff ho1 hp r) k
/-- a String constant's load that nobody has made since the law's start: its text is known -/
theorem Walk.ldcNew {index : Nat} {text : String} {Tl : List String} (w : (Cond.stringLink own index text).before a0 Z = true) (wS : ∀ a ∈ Bundle.stringAtoms, a.before a0 Z = true) (hh : Jvm.Lit.constHeld Z own index) (hcw : Jvm.Lit.compactW.before a0 Z = true) (hTs : Ts = some Tl) (hnot : text ∉ Tl) (hfresh : ∀ y, ws y → h0.size ≤ y.base)
    {vs : List Value} {z : Int32} (ht : (∀ c ∈ text.toList, c.toNat < 256) ∧ text.toList.map (fun c => Value.int (Jvm.Lit.byteI c.toNat.toUInt16)) = vs) (hz : ¬ z < 0) (hl : z.toNatClampNeg = vs.length) (hd : decode B pc = .ok (.ldc index, 2)) {n : Nat} (hn : 4 * text.toList.length ≤ n) (hbig : n ≤ 536870912) (hc1 : cells + 2 ≤ R.cells) (hl1 : slots + (n + 4) ≤ R.slots)
    (k : ∀ h' a b kb, Kq h h' noW → Exa Z h' a "java/lang/String" → Fld Z h' a "java/lang/String" "coder" "B" (.int 0) → Fld Z h' a "java/lang/String" "value" "[B" (.ref b) → Arv Z h' b kb .byte z vs (.int 0) → Walk Z own nm rt B ml R h0 W Q ws (some (text :: Tl)) ((own, index, a) :: Li) h' (cells + 2) (slots + (n + 4)) pc' Ls (.ref a :: st)) (hp : pc + 2 = pc' := by rfl) :
    Walk Z own nm rt B ml R h0 W Q ws Ts Li h cells slots pc Ls st := by
  intro p l e s m args below meth c T locs ho
  obtain ⟨vm0, k0, X, hx, eT, a2, a3, a4, a5, a6, a7, a8, a9, a10, hc, r⟩ := ho
  subst hp hTs
  have X1 : Stand p l e R ((s.setVm vm0).setVm vm0) m args below meth c T locs cells slots := X
  obtain ⟨a, T', h', k1, b, kb, X', e', E', S', hk1, hZ', hown', f1, f2, f3, f4, -, -, I', L', stp⟩ := ldcSVL X1 hx a4 a5 w wS eT (k0 := 0) ((State.WarmedH.refl (s.setVm vm0)).since _) (Nat.zero_le _) (fun y hy => by show s.heap.size ≤ _; rw [a9]; exact hfresh _ (a8 y hy)) (fun b cl q => a10.2 b cl q) (a6.1 _ rfl) hnot hh hcw ht hz hl (g := mkF m pc Ls st) rfl (hb hc hd) hn hbig hc1 hl1
  obtain ⟨s₂, o, h1, r2⟩ := k h' a b kb (Kq.of_ext E') f1 f2 f3 f4 p l e s m args below meth c T' locs ⟨T'.vm, h'.size, X', hx, e', a2.trans ⟨S'.1, fun j q hj hq => ⟨(S'.2 j q hj hq).1, Nat.lt_of_lt_of_le (S'.2 j q hj hq).2 hk1⟩⟩ (Nat.le_trans a3 E'.1), Nat.le_refl _, hZ', hown', ⟨fun T hT => by cases hT; exact I', fun q hq => (List.mem_cons.mp hq).elim (fun u => by subst u; exact L') (fun u => State.resolvedAt?_warmed39 (s := s.setVm vm0) S'.1 (a6.2 q u))⟩, a7, a8, a9, a10, hc, r⟩
  exact ⟨s₂, o, stp _ h1, r2⟩
/-- .. of an entry that is known to be resolved -/
theorem Walk.ldcAgain {index : Nat} {text : String} {a : Addr} (w : (Cond.stringLink own index text).before a0 Z = true) (hLi : (own, index, a) ∈ Li) (hd : decode B pc = .ok (.ldc index, 2)) (k : Walk Z own nm rt B ml R h0 W Q ws Ts Li h cells slots pc' Ls (.ref a :: st)) (hp : pc + 2 = pc' := by rfl) : Walk Z own nm rt B ml R h0 W Q ws Ts Li h cells slots pc Ls st := by
  intro p l e s m args below meth c T locs ho
  obtain ⟨s₂, o, h1, r2⟩ := k p l e s m args below meth c T locs ho
  obtain ⟨vm0, k0, X, hx, eT, a2, a3, a4, a5, a6, a7, a8, a9, a10, hc, r⟩ := ho
  subst hp
  exact ⟨s₂, o, RoadKit.ldcAgain X hx a4 a5 w (a6.2 _ hLi) (g := mkF m pc Ls st) rfl (hb hc hd) _ h1, r2⟩
/-! ### ends -/
theorem ReturnedEndW.mono {s t : State} {o : Outcome} {L : List Loc} {k n k' n' : Nat} (hE : ReturnedEndW s o t L k n) (hk : k ≤ k') (hn : n ≤ n') : ReturnedEndW s o t L k' n' := ⟨hE.1, hE.2.1, hE.2.2.1, hE.2.2.2.mono hk hn⟩
theorem Walk.leave {v : Option Value} (hv : rt = none → v = none) (hq : ∀ y, ws y → Fw h0 W y) (hc1 : cells ≤ R.cells) (hl1 : slots ≤ R.slots) (q : Q v h Ts Li)
    (f : ∀ (p : Program) (l : Launch) (e : Env) (s : State) (m : MethodId) (args : Array Value) (below : List Frame) (meth : Method) (c : Code) (T : State) (locs : List Loc) (fs : List Frame), Stand p l e R s m args below meth c T locs cells slots → p.tables.exec = Jvm.exec → c.code = B → meth.sig.returnType = rt →
      (∀ (f : JFrame) (acts : List Action), f.method = m → f.locked = none → f.entered = [] → (doReturn e (T.setTop f) acts v).1 = T.setFrames fs) → Steps p.tables e below (T.setTop (mkF m pc Ls st)) (T.setFrames fs)) :
    Walk Z own nm rt B ml R h0 W Q ws Ts Li h cells slots pc Ls st := by
  intro p l e s m args below meth c T locs ho
  obtain ⟨vm0, k0, X, hx, eT, a2, a3, a4, a5, a6, a7, a8, a9, a10, hc, b1, b2, b3, b4⟩ := ho
  obtain ⟨fs, hr, hrun, hended, hE⟩ := X.leaveW a2 (eT ▸ a3) (v := v) (fun q => hv (b3.symm.trans q)) b4
  exact ⟨_, _, f p l e _ m args below meth c T locs fs X hx hc b3 hr, hrun, hended, v, locs, Ts, Li, rfl, eT ▸ q, LS.warm (s := s) a6 X.warmed, a7, fun y hy => hq _ (a8 y hy), ReturnedEndW.mono hE hc1 hl1⟩
theorem Walk.ret (hd : decode B pc = .ok (.return_, 1)) (hrt : rt = none) (q : Q none h Ts Li) (hq : ∀ y, ws y → Fw h0 W y) (hc1 : cells ≤ R.cells) (hl1 : slots ≤ R.slots) : Walk Z own nm rt B ml R h0 W Q ws Ts Li h cells slots pc Ls [] :=
  Walk.leave (fun _ => rfl) hq hc1 hl1 q fun _ _ _ _ _ _ _ _ _ _ _ _ X hx hc b hr => X.returnOut hx (b.trans hrt) (hb hc hd) hr
theorem Walk.lret {x : Int64} (hd : decode B pc = .ok (.lreturn, 1)) (hrt : rt = some .long) (q : Q (some (.long x)) h Ts Li) (hq : ∀ y, ws y → Fw h0 W y) (hc1 : cells ≤ R.cells) (hl1 : slots ≤ R.slots) : Walk Z own nm rt B ml R h0 W Q ws Ts Li h cells slots pc Ls [.long x] :=
  Walk.leave (fun z => by rw [hrt] at z; cases z) hq hc1 hl1 q fun _ _ _ _ _ _ _ _ _ _ _ _ X hx hc b hr => X.lreturnOut hx (b.trans hrt) (hb hc hd) hr
theorem Walk.nret {x : Int32} {t : FieldType} (hd : decode B pc = .ok (.ireturn, 1)) (hrt : rt = some t) (ht : t = .boolean ∨ t = .byte ∨ t = .char ∨ t = .short) (q : Q (some (.int (nar t x))) h Ts Li) (hq : ∀ y, ws y → Fw h0 W y) (hc1 : cells ≤ R.cells) (hl1 : slots ≤ R.slots) : Walk Z own nm rt B ml R h0 W Q ws Ts Li h cells slots pc Ls (.int x :: st) :=
  Walk.leave (fun z => by rw [hrt] at z; cases z) hq hc1 hl1 q fun _ _ _ _ _ _ _ _ _ _ _ _ X hx hc b hr => retN X hx (b.trans hrt) ht (hb hc hd) hr
theorem Walk.iret {x : Int32} (hd : decode B pc = .ok (.ireturn, 1)) (hrt : rt = some .int) (q : Q (some (.int x)) h Ts Li) (hq : ∀ y, ws y → Fw h0 W y) (hc1 : cells ≤ R.cells) (hl1 : slots ≤ R.slots) : Walk Z own nm rt B ml R h0 W Q ws Ts Li h cells slots pc Ls (.int x :: st) :=
  Walk.leave (fun z => by rw [hrt] at z; cases z) hq hc1 hl1 q fun _ _ _ _ _ _ _ _ _ _ _ _ X hx hc b hr => retI X hx (b.trans hrt) (hb hc hd) hr
theorem Walk.aret {v : Value} {t : FieldType} (hd : decode B pc = .ok (.areturn, 1)) (hrt : rt = some t) (ht : t.isReference = true) (hv : v.isRef = true) (q : Q (some v) h Ts Li) (hq : ∀ y, ws y → Fw h0 W y) (hc1 : cells ≤ R.cells) (hl1 : slots ≤ R.slots) : Walk Z own nm rt B ml R h0 W Q ws Ts Li h cells slots pc Ls (v :: st) :=
  Walk.leave (fun z => by rw [hrt] at z; cases z) hq hc1 hl1 q fun _ _ _ _ _ _ _ _ _ _ _ _ X hx hc b hr => retR X hx (b.trans hrt) (by cases v <;> first | (cases hv; done) | (cases t <;> first | rfl | (cases ht; done))) ht hv (hb hc hd) hr
theorem Av.arv {a : Addr} {ty : FieldType} {n : Nat} {f : Nat → Value} (F : Av Z h a ty n f) {z : Int32} (hz : ¬ z < 0) (hzn : z.toNatClampNeg = n) {vs : List Value} {d : Value} (hv : ∀ i, i < n → vs.getD i d = f i) (hf : ∀ i, i < n → fits ty (f i) = true) : ∃ k, Arv Z h a k ty z vs d := by
  obtain ⟨c, A, r1, r2, r3⟩ := F
  exact ⟨c.cls, c, A, rfl, by rw [r1, hzn], hz, fun i hi => by rw [hv i (r1 ▸ hi)]; exact r3 i (r1 ▸ hi), fun i hi => by rw [hv i (r1 ▸ hi)]; exact hf i (r1 ▸ hi)⟩
theorem refNar {v : Value} {t : FieldType} (hv : v.isRef = true) (ht : t.isReference = true) : narrow t v = v := by cases v <;> first | (cases hv; done) | (cases t <;> first | rfl | (cases ht; done))
theorem refFit {v : Value} {t : FieldType} (hv : v.isRef = true) (ht : t.isReference = true) : fits t v = true := by cases v <;> first | (cases hv; done) | (cases t <;> first | rfl | (cases ht; done))
theorem cat_i (x : Int32) : (Value.int x).category = 1 := rfl
theorem cat_j (x : Int64) : (Value.long x).category = 2 := rfl
theorem cat_r (x : Addr) : (Value.ref x).category = 1 := rfl
theorem cat_n : Value.null.category = 1 := rfl
theorem stV {L L' : Array Slot} {i : Nat} {v : Value} {o : Slot} (hold : L[i]? = some o) (ho : o = .unset ∨ ∃ w, o = .val w ∧ w.category = 1) (hv : v.category = 1) (e : L.setIfInBounds i (.val v) = L') : storeLocals L i v = some L' := e ▸ XS.store1 hold ho hv
end W
end Jvm.Wk
namespace Jvm.Pilot.@@N@@
open Jvm Jvm.ClassFile Sem Op Lib Jvm.Free Jvm.Stand Jvm.LawKit Jvm.RoadKit Bundle Jvm.Pilot.@@N@@.Jvm.D Jvm.Wk
theorem wd0 {a0 : Array Value} {Z : State} (hw : ∀ d ∈ tables_1, d.before a0 Z = true) : (Jvm.Cond.methodLink "com/example/rickyard/rickyard/HarvestStateInProgressPinLaw" (16 : Nat) ({ cls := "com/example/rickyard/rickyard/HarvestStateInProgressPinLaw", name := "draw", desc := "(I)Ljava/lang/String;" } : Jvm.MethodName)).before a0 Z = true := hw _ (List.mem_of_getElem? (i := 0) rfl)
theorem wd1 {a0 : Array Value} {Z : State} (hw : ∀ d ∈ tables_1, d.before a0 Z = true) : (Jvm.Cond.static ({ cls := "com/example/rickyard/rickyard/HarvestStateInProgressPinLaw", name := "draw", desc := "(I)Ljava/lang/String;" } : Jvm.MethodName)).before a0 Z = true := hw _ (List.mem_of_getElem? (i := 1) rfl)
theorem wd2 {a0 : Array Value} {Z : State} (hw : ∀ d ∈ tables_1, d.before a0 Z = true) : (Jvm.Cond.initialized "com/example/rickyard/rickyard/HarvestStateInProgressPinLaw").before a0 Z = true := hw _ (List.mem_of_getElem? (i := 2) rfl)
theorem wd3 {a0 : Array Value} {Z : State} (hw : ∀ d ∈ tables_1, d.before a0 Z = true) : (Jvm.Cond.code ({ cls := "com/example/rickyard/rickyard/HarvestStateInProgressPinLaw", name := "draw", desc := "(I)Ljava/lang/String;" } : Jvm.MethodName) method_2_code (1 : Nat) (Option.some (Jvm.ClassFile.FieldType.object "java/lang/String"))).before a0 Z = true := hw _ (List.mem_of_getElem? (i := 3) rfl)
theorem wd4 {a0 : Array Value} {Z : State} (hw : ∀ d ∈ tables_1, d.before a0 Z = true) : (Jvm.Cond.classLink "com/example/rickyard/rickyard/HarvestStateInProgressPinLaw" (7 : Nat) "java/lang/String").before a0 Z = true := hw _ (List.mem_of_getElem? (i := 4) rfl)
theorem wd5 {a0 : Array Value} {Z : State} (hw : ∀ d ∈ tables_1, d.before a0 Z = true) : (Jvm.Cond.instantiable "java/lang/String" (4 : Nat)).before a0 Z = true := hw _ (List.mem_of_getElem? (i := 5) rfl)
theorem wd6 {a0 : Array Value} {Z : State} (hw : ∀ d ∈ tables_1, d.before a0 Z = true) : (Jvm.Cond.initialized "java/lang/String").before a0 Z = true := hw _ (List.mem_of_getElem? (i := 6) rfl)
theorem wd7 {a0 : Array Value} {Z : State} (hw : ∀ d ∈ tables_1, d.before a0 Z = true) : (Jvm.Cond.arrayClass Jvm.ClassFile.FieldType.char).before a0 Z = true := hw _ (List.mem_of_getElem? (i := 7) rfl)
theorem wd8 {a0 : Array Value} {Z : State} (hw : ∀ d ∈ tables_1, d.before a0 Z = true) : (Jvm.Cond.methodLink "com/example/rickyard/rickyard/HarvestStateInProgressPinLaw" (9 : Nat) ({ cls := "java/lang/String", name := "<init>", desc := "([C)V" } : Jvm.MethodName)).before a0 Z = true := hw _ (List.mem_of_getElem? (i := 8) rfl)
theorem wd9 {a0 : Array Value} {Z : State} (hw : ∀ d ∈ tables_1, d.before a0 Z = true) : (Jvm.Cond.instanceMethod ({ cls := "java/lang/String", name := "<init>", desc := "([C)V" } : Jvm.MethodName)).before a0 Z = true := hw _ (List.mem_of_getElem? (i := 9) rfl)
theorem wd10 {a0 : Array Value} {Z : State} (hw : ∀ d ∈ tables_1, d.before a0 Z = true) : (Jvm.Cond.code ({ cls := "java/lang/String", name := "<init>", desc := "([C)V" } : Jvm.MethodName) jdk_42_method_3_code (2 : Nat) (Option.none : Option Jvm.ClassFile.FieldType)).before a0 Z = true := hw _ (List.mem_of_getElem? (i := 10) rfl)
theorem wd11 {a0 : Array Value} {Z : State} (hw : ∀ d ∈ tables_1, d.before a0 Z = true) : (Jvm.Cond.methodLink "java/lang/String" (27 : Nat) ({ cls := "java/lang/String", name := "<init>", desc := "([CIILjava/lang/Void;)V" } : Jvm.MethodName)).before a0 Z = true := hw _ (List.mem_of_getElem? (i := 11) rfl)
theorem wd12 {a0 : Array Value} {Z : State} (hw : ∀ d ∈ tables_1, d.before a0 Z = true) : (Jvm.Cond.instanceMethod ({ cls := "java/lang/String", name := "<init>", desc := "([CIILjava/lang/Void;)V" } : Jvm.MethodName)).before a0 Z = true := hw _ (List.mem_of_getElem? (i := 12) rfl)
theorem wd14 {a0 : Array Value} {Z : State} (hw : ∀ d ∈ tables_1, d.before a0 Z = true) : (Jvm.Cond.code ({ cls := "java/lang/String", name := "<init>", desc := "([CIILjava/lang/Void;)V" } : Jvm.MethodName) jdk_42_method_149_code (6 : Nat) (Option.none : Option Jvm.ClassFile.FieldType)).before a0 Z = true := hw _ (List.mem_of_getElem? (i := 14) rfl)
theorem wd15 {a0 : Array Value} {Z : State} (hw : ∀ d ∈ tables_1, d.before a0 Z = true) : (Jvm.Cond.methodLink "java/lang/String" (1 : Nat) ({ cls := "java/lang/Object", name := "<init>", desc := "()V" } : Jvm.MethodName)).before a0 Z = true := hw _ (List.mem_of_getElem? (i := 15) rfl)
theorem wd16 {a0 : Array Value} {Z : State} (hw : ∀ d ∈ tables_1, d.before a0 Z = true) : (Jvm.Cond.instanceMethod ({ cls := "java/lang/Object", name := "<init>", desc := "()V" } : Jvm.MethodName)).before a0 Z = true := hw _ (List.mem_of_getElem? (i := 16) rfl)
theorem wd17 {a0 : Array Value} {Z : State} (hw : ∀ d ∈ tables_1, d.before a0 Z = true) : (Jvm.Cond.code ({ cls := "java/lang/Object", name := "<init>", desc := "()V" } : Jvm.MethodName) object_method_1_code (1 : Nat) (Option.none : Option Jvm.ClassFile.FieldType)).before a0 Z = true := hw _ (List.mem_of_getElem? (i := 17) rfl)
theorem wd18 {a0 : Array Value} {Z : State} (hw : ∀ d ∈ tables_1, d.before a0 Z = true) : (Jvm.Cond.stringLink "java/lang/String" (7 : Nat) "").before a0 Z = true := hw _ (List.mem_of_getElem? (i := 18) rfl)
theorem wd19 {a0 : Array Value} {Z : State} (hw : ∀ d ∈ tables_1, d.before a0 Z = true) : (Jvm.Cond.arrayClass Jvm.ClassFile.FieldType.byte).before a0 Z = true := hw _ (List.mem_of_getElem? (i := 19) rfl)
theorem wd20 {a0 : Array Value} {Z : State} (hw : ∀ d ∈ tables_1, d.before a0 Z = true) : (Jvm.Cond.laysFinal "java/lang/String" "java/lang/String" "value" "[B").before a0 Z = true := hw _ (List.mem_of_getElem? (i := 20) rfl)
theorem wd21 {a0 : Array Value} {Z : State} (hw : ∀ d ∈ tables_1, d.before a0 Z = true) : (Jvm.Cond.laysFinal "java/lang/String" "java/lang/String" "coder" "B").before a0 Z = true := hw _ (List.mem_of_getElem? (i := 21) rfl)
theorem wd24 {a0 : Array Value} {Z : State} (hw : ∀ d ∈ tables_1, d.before a0 Z = true) : (Jvm.Cond.fieldLink "java/lang/String" (9 : Nat) "java/lang/String" "value" "[B").before a0 Z = true := hw _ (List.mem_of_getElem? (i := 24) rfl)
theorem wd25 {a0 : Array Value} {Z : State} (hw : ∀ d ∈ tables_1, d.before a0 Z = true) : (Jvm.Cond.fieldLink "java/lang/String" (15 : Nat) "java/lang/String" "coder" "B").before a0 Z = true := hw _ (List.mem_of_getElem? (i := 25) rfl)
theorem wd26 {a0 : Array Value} {Z : State} (hw : ∀ d ∈ tables_1, d.before a0 Z = true) : (Jvm.Cond.methodLink "com/example/rickyard/rickyard/HarvestStateInProgressPinLaw" (12 : Nat) ({ cls := "java/lang/String", name := "valueOf", desc := "(C)Ljava/lang/String;" } : Jvm.MethodName)).before a0 Z = true := hw _ (List.mem_of_getElem? (i := 26) rfl)
theorem wd27 {a0 : Array Value} {Z : State} (hw : ∀ d ∈ tables_1, d.before a0 Z = true) : (Jvm.Cond.static ({ cls := "java/lang/String", name := "valueOf", desc := "(C)Ljava/lang/String;" } : Jvm.MethodName)).before a0 Z = true := hw _ (List.mem_of_getElem? (i := 27) rfl)
theorem wd28 {a0 : Array Value} {Z : State} (hw : ∀ d ∈ tables_1, d.before a0 Z = true) : (Jvm.Cond.code ({ cls := "java/lang/String", name := "valueOf", desc := "(C)Ljava/lang/String;" } : Jvm.MethodName) jdk_42_method_139_code (1 : Nat) (Option.some (Jvm.ClassFile.FieldType.object "java/lang/String"))).before a0 Z = true := hw _ (List.mem_of_getElem? (i := 28) rfl)
theorem wd29 {a0 : Array Value} {Z : State} (hw : ∀ d ∈ tables_1, d.before a0 Z = true) : (Jvm.Cond.fieldLink "java/lang/String" (38 : Nat) "java/lang/String" "COMPACT_STRINGS" "Z").before a0 Z = true := hw _ (List.mem_of_getElem? (i := 29) rfl)
theorem wd30 {a0 : Array Value} {Z : State} (hw : ∀ d ∈ tables_1, d.before a0 Z = true) : (Jvm.Cond.methodLink "java/lang/String" (1015 : Nat) ({ cls := "java/lang/StringLatin1", name := "canEncode", desc := "(C)Z" } : Jvm.MethodName)).before a0 Z = true := hw _ (List.mem_of_getElem? (i := 30) rfl)
theorem wd31 {a0 : Array Value} {Z : State} (hw : ∀ d ∈ tables_1, d.before a0 Z = true) : (Jvm.Cond.static ({ cls := "java/lang/StringLatin1", name := "canEncode", desc := "(C)Z" } : Jvm.MethodName)).before a0 Z = true := hw _ (List.mem_of_getElem? (i := 31) rfl)
theorem wd32 {a0 : Array Value} {Z : State} (hw : ∀ d ∈ tables_1, d.before a0 Z = true) : (Jvm.Cond.initialized "java/lang/StringLatin1").before a0 Z = true := hw _ (List.mem_of_getElem? (i := 32) rfl)
theorem wd33 {a0 : Array Value} {Z : State} (hw : ∀ d ∈ tables_1, d.before a0 Z = true) : (Jvm.Cond.code ({ cls := "java/lang/StringLatin1", name := "canEncode", desc := "(C)Z" } : Jvm.MethodName) jdk_43_method_3_code (1 : Nat) (Option.some Jvm.ClassFile.FieldType.boolean)).before a0 Z = true := hw _ (List.mem_of_getElem? (i := 33) rfl)
theorem wd34 {a0 : Array Value} {Z : State} (hw : ∀ d ∈ tables_1, d.before a0 Z = true) : (Jvm.Cond.classLink "java/lang/String" (10 : Nat) "java/lang/String").before a0 Z = true := hw _ (List.mem_of_getElem? (i := 34) rfl)
theorem wd35 {a0 : Array Value} {Z : State} (hw : ∀ d ∈ tables_1, d.before a0 Z = true) : (Jvm.Cond.methodLink "java/lang/String" (1018 : Nat) ({ cls := "java/lang/StringLatin1", name := "toBytes", desc := "(C)[B" } : Jvm.MethodName)).before a0 Z = true := hw _ (List.mem_of_getElem? (i := 35) rfl)
theorem wd36 {a0 : Array Value} {Z : State} (hw : ∀ d ∈ tables_1, d.before a0 Z = true) : (Jvm.Cond.static ({ cls := "java/lang/StringLatin1", name := "toBytes", desc := "(C)[B" } : Jvm.MethodName)).before a0 Z = true := hw _ (List.mem_of_getElem? (i := 36) rfl)
theorem wd37 {a0 : Array Value} {Z : State} (hw : ∀ d ∈ tables_1, d.before a0 Z = true) : (Jvm.Cond.code ({ cls := "java/lang/StringLatin1", name := "toBytes", desc := "(C)[B" } : Jvm.MethodName) jdk_43_method_46_code (1 : Nat) (Option.some (Jvm.ClassFile.FieldType.array Jvm.ClassFile.FieldType.byte))).before a0 Z = true := hw _ (List.mem_of_getElem? (i := 37) rfl)
theorem wd38 {a0 : Array Value} {Z : State} (hw : ∀ d ∈ tables_1, d.before a0 Z = true) : (Jvm.Cond.methodLink "java/lang/String" (209 : Nat) ({ cls := "java/lang/String", name := "<init>", desc := "([BB)V" } : Jvm.MethodName)).before a0 Z = true := hw _ (List.mem_of_getElem? (i := 38) rfl)
theorem wd39 {a0 : Array Value} {Z : State} (hw : ∀ d ∈ tables_1, d.before a0 Z = true) : (Jvm.Cond.instanceMethod ({ cls := "java/lang/String", name := "<init>", desc := "([BB)V" } : Jvm.MethodName)).before a0 Z = true := hw _ (List.mem_of_getElem? (i := 39) rfl)
theorem wd40 {a0 : Array Value} {Z : State} (hw : ∀ d ∈ tables_1, d.before a0 Z = true) : (Jvm.Cond.code ({ cls := "java/lang/String", name := "<init>", desc := "([BB)V" } : Jvm.MethodName) jdk_42_method_151_code (3 : Nat) (Option.none : Option Jvm.ClassFile.FieldType)).before a0 Z = true := hw _ (List.mem_of_getElem? (i := 40) rfl)
theorem wd41 {a0 : Array Value} {Z : State} (hw : ∀ d ∈ tables_1, d.before a0 Z = true) : (Jvm.Cond.classLink "com/example/rickyard/rickyard/HarvestStateInProgressPinLaw" (22 : Nat) "com/example/rickyard/rickyard/HarvestState").before a0 Z = true := hw _ (List.mem_of_getElem? (i := 41) rfl)
theorem wd42 {a0 : Array Value} {Z : State} (hw : ∀ d ∈ tables_1, d.before a0 Z = true) : (Jvm.Cond.instantiable "com/example/rickyard/rickyard/HarvestState" (7 : Nat)).before a0 Z = true := hw _ (List.mem_of_getElem? (i := 42) rfl)
theorem wd43 {a0 : Array Value} {Z : State} (hw : ∀ d ∈ tables_1, d.before a0 Z = true) : (Jvm.Cond.initialized "com/example/rickyard/rickyard/HarvestState").before a0 Z = true := hw _ (List.mem_of_getElem? (i := 43) rfl)
theorem wd44 {a0 : Array Value} {Z : State} (hw : ∀ d ∈ tables_1, d.before a0 Z = true) : (Jvm.Cond.stringLink "com/example/rickyard/rickyard/HarvestStateInProgressPinLaw" (24 : Nat) "u").before a0 Z = true := hw _ (List.mem_of_getElem? (i := 44) rfl)
theorem wd45 {a0 : Array Value} {Z : State} (hw : ∀ d ∈ tables_1, d.before a0 Z = true) : (Jvm.Cond.methodLink "com/example/rickyard/rickyard/HarvestStateInProgressPinLaw" (26 : Nat) ({ cls := "com/example/rickyard/rickyard/HarvestState", name := "<init>", desc := "(Ljava/lang/String;Ljava/lang/String;Ljava/lang/String;Ljava/lang/String;Ljava/lang/String;Ljava/lang/String;Ljava/lang/String;)V" } : Jvm.MethodName)).before a0 Z = true := hw _ (List.mem_of_getElem? (i := 45) rfl)
theorem wd46 {a0 : Array Value} {Z : State} (hw : ∀ d ∈ tables_1, d.before a0 Z = true) : (Jvm.Cond.instanceMethod ({ cls := "com/example/rickyard/rickyard/HarvestState", name := "<init>", desc := "(Ljava/lang/String;Ljava/lang/String;Ljava/lang/String;Ljava/lang/String;Ljava/lang/String;Ljava/lang/String;Ljava/lang/String;)V" } : Jvm.MethodName)).before a0 Z = true := hw _ (List.mem_of_getElem? (i := 46) rfl)
theorem wd47 {a0 : Array Value} {Z : State} (hw : ∀ d ∈ tables_1, d.before a0 Z = true) : (Jvm.Cond.code ({ cls := "com/example/rickyard/rickyard/HarvestState", name := "<init>", desc := "(Ljava/lang/String;Ljava/lang/String;Ljava/lang/String;Ljava/lang/String;Ljava/lang/String;Ljava/lang/String;Ljava/lang/String;)V" } : Jvm.MethodName) prog_1_method_1_code (8 : Nat) (Option.none : Option Jvm.ClassFile.FieldType)).before a0 Z = true := hw _ (List.mem_of_getElem? (i := 47) rfl)
theorem wd48 {a0 : Array Value} {Z : State} (hw : ∀ d ∈ tables_1, d.before a0 Z = true) : (Jvm.Cond.methodLink "com/example/rickyard/rickyard/HarvestState" (1 : Nat) ({ cls := "java/lang/Record", name := "<init>", desc := "()V" } : Jvm.MethodName)).before a0 Z = true := hw _ (List.mem_of_getElem? (i := 48) rfl)
theorem wd49 {a0 : Array Value} {Z : State} (hw : ∀ d ∈ tables_1, d.before a0 Z = true) : (Jvm.Cond.instanceMethod ({ cls := "java/lang/Record", name := "<init>", desc := "()V" } : Jvm.MethodName)).before a0 Z = true := hw _ (List.mem_of_getElem? (i := 49) rfl)
theorem wd51 {a0 : Array Value} {Z : State} (hw : ∀ d ∈ tables_1, d.before a0 Z = true) : (Jvm.Cond.initialized "java/lang/Record").before a0 Z = true := hw _ (List.mem_of_getElem? (i := 51) rfl)
theorem wd52 {a0 : Array Value} {Z : State} (hw : ∀ d ∈ tables_1, d.before a0 Z = true) : (Jvm.Cond.code ({ cls := "java/lang/Record", name := "<init>", desc := "()V" } : Jvm.MethodName) jdk_30_method_1_code (1 : Nat) (Option.none : Option Jvm.ClassFile.FieldType)).before a0 Z = true := hw _ (List.mem_of_getElem? (i := 52) rfl)
theorem wd53 {a0 : Array Value} {Z : State} (hw : ∀ d ∈ tables_1, d.before a0 Z = true) : (Jvm.Cond.methodLink "java/lang/Record" (1 : Nat) ({ cls := "java/lang/Object", name := "<init>", desc := "()V" } : Jvm.MethodName)).before a0 Z = true := hw _ (List.mem_of_getElem? (i := 53) rfl)
theorem wd54 {a0 : Array Value} {Z : State} (hw : ∀ d ∈ tables_1, d.before a0 Z = true) : (Jvm.Cond.fieldLink "com/example/rickyard/rickyard/HarvestState" (7 : Nat) "com/example/rickyard/rickyard/HarvestState" "baseUrl" "Ljava/lang/String;").before a0 Z = true := hw _ (List.mem_of_getElem? (i := 54) rfl)
theorem wd55 {a0 : Array Value} {Z : State} (hw : ∀ d ∈ tables_1, d.before a0 Z = true) : (Jvm.Cond.laysFinal "com/example/rickyard/rickyard/HarvestState" "com/example/rickyard/rickyard/HarvestState" "baseUrl" "Ljava/lang/String;").before a0 Z = true := hw _ (List.mem_of_getElem? (i := 55) rfl)
theorem wd56 {a0 : Array Value} {Z : State} (hw : ∀ d ∈ tables_1, d.before a0 Z = true) : (Jvm.Cond.fieldLink "com/example/rickyard/rickyard/HarvestState" (13 : Nat) "com/example/rickyard/rickyard/HarvestState" "prefix" "Ljava/lang/String;").before a0 Z = true := hw _ (List.mem_of_getElem? (i := 56) rfl)
theorem wd57 {a0 : Array Value} {Z : State} (hw : ∀ d ∈ tables_1, d.before a0 Z = true) : (Jvm.Cond.laysFinal "com/example/rickyard/rickyard/HarvestState" "com/example/rickyard/rickyard/HarvestState" "prefix" "Ljava/lang/String;").before a0 Z = true := hw _ (List.mem_of_getElem? (i := 57) rfl)
theorem wd58 {a0 : Array Value} {Z : State} (hw : ∀ d ∈ tables_1, d.before a0 Z = true) : (Jvm.Cond.fieldLink "com/example/rickyard/rickyard/HarvestState" (16 : Nat) "com/example/rickyard/rickyard/HarvestState" "set" "Ljava/lang/String;").before a0 Z = true := hw _ (List.mem_of_getElem? (i := 58) rfl)
theorem wd59 {a0 : Array Value} {Z : State} (hw : ∀ d ∈ tables_1, d.before a0 Z = true) : (Jvm.Cond.laysFinal "com/example/rickyard/rickyard/HarvestState" "com/example/rickyard/rickyard/HarvestState" "set" "Ljava/lang/String;").before a0 Z = true := hw _ (List.mem_of_getElem? (i := 59) rfl)
theorem wd60 {a0 : Array Value} {Z : State} (hw : ∀ d ∈ tables_1, d.before a0 Z = true) : (Jvm.Cond.fieldLink "com/example/rickyard/rickyard/HarvestState" (19 : Nat) "com/example/rickyard/rickyard/HarvestState" "harvested" "Ljava/lang/String;").before a0 Z = true := hw _ (List.mem_of_getElem? (i := 60) rfl)
theorem wd61 {a0 : Array Value} {Z : State} (hw : ∀ d ∈ tables_1, d.before a0 Z = true) : (Jvm.Cond.laysFinal "com/example/rickyard/rickyard/HarvestState" "com/example/rickyard/rickyard/HarvestState" "harvested" "Ljava/lang/String;").before a0 Z = true := hw _ (List.mem_of_getElem? (i := 61) rfl)
theorem wd62 {a0 : Array Value} {Z : State} (hw : ∀ d ∈ tables_1, d.before a0 Z = true) : (Jvm.Cond.fieldLink "com/example/rickyard/rickyard/HarvestState" (22 : Nat) "com/example/rickyard/rickyard/HarvestState" "started" "Ljava/lang/String;").before a0 Z = true := hw _ (List.mem_of_getElem? (i := 62) rfl)
theorem wd63 {a0 : Array Value} {Z : State} (hw : ∀ d ∈ tables_1, d.before a0 Z = true) : (Jvm.Cond.laysFinal "com/example/rickyard/rickyard/HarvestState" "com/example/rickyard/rickyard/HarvestState" "started" "Ljava/lang/String;").before a0 Z = true := hw _ (List.mem_of_getElem? (i := 63) rfl)
theorem wd64 {a0 : Array Value} {Z : State} (hw : ∀ d ∈ tables_1, d.before a0 Z = true) : (Jvm.Cond.fieldLink "com/example/rickyard/rickyard/HarvestState" (25 : Nat) "com/example/rickyard/rickyard/HarvestState" "from" "Ljava/lang/String;").before a0 Z = true := hw _ (List.mem_of_getElem? (i := 64) rfl)
theorem wd65 {a0 : Array Value} {Z : State} (hw : ∀ d ∈ tables_1, d.before a0 Z = true) : (Jvm.Cond.laysFinal "com/example/rickyard/rickyard/HarvestState" "com/example/rickyard/rickyard/HarvestState" "from" "Ljava/lang/String;").before a0 Z = true := hw _ (List.mem_of_getElem? (i := 65) rfl)
theorem wd66 {a0 : Array Value} {Z : State} (hw : ∀ d ∈ tables_1, d.before a0 Z = true) : (Jvm.Cond.fieldLink "com/example/rickyard/rickyard/HarvestState" (28 : Nat) "com/example/rickyard/rickyard/HarvestState" "token" "Ljava/lang/String;").before a0 Z = true := hw _ (List.mem_of_getElem? (i := 66) rfl)
theorem wd67 {a0 : Array Value} {Z : State} (hw : ∀ d ∈ tables_1, d.before a0 Z = true) : (Jvm.Cond.laysFinal "com/example/rickyard/rickyard/HarvestState" "com/example/rickyard/rickyard/HarvestState" "token" "Ljava/lang/String;").before a0 Z = true := hw _ (List.mem_of_getElem? (i := 67) rfl)
theorem wd68 {a0 : Array Value} {Z : State} (hw : ∀ d ∈ tables_1, d.before a0 Z = true) : (Jvm.Cond.methodLink "com/example/rickyard/rickyard/HarvestStateInProgressPinLaw" (29 : Nat) ({ cls := "com/example/rickyard/rickyard/HarvestState", name := "inProgress", desc := "()Z" } : Jvm.MethodName)).before a0 Z = true := hw _ (List.mem_of_getElem? (i := 68) rfl)
theorem wd69 {a0 : Array Value} {Z : State} (hw : ∀ d ∈ tables_1, d.before a0 Z = true) : (Jvm.Cond.declares ({ cls := "com/example/rickyard/rickyard/HarvestState", name := "inProgress", desc := "()Z" } : Jvm.MethodName)).before a0 Z = true := hw _ (List.mem_of_getElem? (i := 69) rfl)
theorem wd70 {a0 : Array Value} {Z : State} (hw : ∀ d ∈ tables_1, d.before a0 Z = true) : (Jvm.Cond.instanceMethod ({ cls := "com/example/rickyard/rickyard/HarvestState", name := "inProgress", desc := "()Z" } : Jvm.MethodName)).before a0 Z = true := hw _ (List.mem_of_getElem? (i := 70) rfl)
theorem wd71 {a0 : Array Value} {Z : State} (hw : ∀ d ∈ tables_1, d.before a0 Z = true) : (Jvm.Cond.selects "com/example/rickyard/rickyard/HarvestState" ({ cls := "com/example/rickyard/rickyard/HarvestState", name := "inProgress", desc := "()Z" } : Jvm.MethodName) ({ cls := "com/example/rickyard/rickyard/HarvestState", name := "inProgress", desc := "()Z" } : Jvm.MethodName)).before a0 Z = true := hw _ (List.mem_of_getElem? (i := 71) rfl)
theorem wd72 {a0 : Array Value} {Z : State} (hw : ∀ d ∈ tables_1, d.before a0 Z = true) : (Jvm.Cond.code ({ cls := "com/example/rickyard/rickyard/HarvestState", name := "inProgress", desc := "()Z" } : Jvm.MethodName) prog_1_method_3_code (1 : Nat) (Option.some Jvm.ClassFile.FieldType.boolean)).before a0 Z = true := hw _ (List.mem_of_getElem? (i := 72) rfl)
theorem wd73 {a0 : Array Value} {Z : State} (hw : ∀ d ∈ tables_1, d.before a0 Z = true) : (Jvm.Cond.stringLink "com/example/rickyard/rickyard/HarvestStateInProgressPinLaw" (33 : Nat) "d").before a0 Z = true := hw _ (List.mem_of_getElem? (i := 73) rfl)
theorem wd74 {a0 : Array Value} {Z : State} (hw : ∀ d ∈ tables_1, d.before a0 Z = true) : (Jvm.Cond.methodLink "com/example/rickyard/rickyard/HarvestStateInProgressPinLaw" (35 : Nat) ({ cls := "com/example/rickyard/rickyard/HarvestState", name := "stored", desc := "(Ljava/lang/String;Ljava/lang/String;)Lcom/example/rickyard/rickyard/HarvestState;" } : Jvm.MethodName)).before a0 Z = true := hw _ (List.mem_of_getElem? (i := 74) rfl)
theorem wd75 {a0 : Array Value} {Z : State} (hw : ∀ d ∈ tables_1, d.before a0 Z = true) : (Jvm.Cond.declares ({ cls := "com/example/rickyard/rickyard/HarvestState", name := "stored", desc := "(Ljava/lang/String;Ljava/lang/String;)Lcom/example/rickyard/rickyard/HarvestState;" } : Jvm.MethodName)).before a0 Z = true := hw _ (List.mem_of_getElem? (i := 75) rfl)
theorem wd76 {a0 : Array Value} {Z : State} (hw : ∀ d ∈ tables_1, d.before a0 Z = true) : (Jvm.Cond.instanceMethod ({ cls := "com/example/rickyard/rickyard/HarvestState", name := "stored", desc := "(Ljava/lang/String;Ljava/lang/String;)Lcom/example/rickyard/rickyard/HarvestState;" } : Jvm.MethodName)).before a0 Z = true := hw _ (List.mem_of_getElem? (i := 76) rfl)
theorem wd77 {a0 : Array Value} {Z : State} (hw : ∀ d ∈ tables_1, d.before a0 Z = true) : (Jvm.Cond.selects "com/example/rickyard/rickyard/HarvestState" ({ cls := "com/example/rickyard/rickyard/HarvestState", name := "stored", desc := "(Ljava/lang/String;Ljava/lang/String;)Lcom/example/rickyard/rickyard/HarvestState;" } : Jvm.MethodName) ({ cls := "com/example/rickyard/rickyard/HarvestState", name := "stored", desc := "(Ljava/lang/String;Ljava/lang/String;)Lcom/example/rickyard/rickyard/HarvestState;" } : Jvm.MethodName)).before a0 Z = true := hw _ (List.mem_of_getElem? (i := 77) rfl)
theorem wd78 {a0 : Array Value} {Z : State} (hw : ∀ d ∈ tables_1, d.before a0 Z = true) : (Jvm.Cond.code ({ cls := "com/example/rickyard/rickyard/HarvestState", name := "stored", desc := "(Ljava/lang/String;Ljava/lang/String;)Lcom/example/rickyard/rickyard/HarvestState;" } : Jvm.MethodName) prog_1_method_5_code (4 : Nat) (Option.some (Jvm.ClassFile.FieldType.object "com/example/rickyard/rickyard/HarvestState"))).before a0 Z = true := hw _ (List.mem_of_getElem? (i := 78) rfl)
theorem wd79 {a0 : Array Value} {Z : State} (hw : ∀ d ∈ tables_1, d.before a0 Z = true) : (Jvm.Cond.classLink "com/example/rickyard/rickyard/HarvestState" (8 : Nat) "com/example/rickyard/rickyard/HarvestState").before a0 Z = true := hw _ (List.mem_of_getElem? (i := 79) rfl)
theorem wd80 {a0 : Array Value} {Z : State} (hw : ∀ d ∈ tables_1, d.before a0 Z = true) : (Jvm.Cond.methodLink "com/example/rickyard/rickyard/HarvestState" (31 : Nat) ({ cls := "com/example/rickyard/rickyard/HarvestState", name := "<init>", desc := "(Ljava/lang/String;Ljava/lang/String;Ljava/lang/String;Ljava/lang/String;Ljava/lang/String;Ljava/lang/String;Ljava/lang/String;)V" } : Jvm.MethodName)).before a0 Z = true := hw _ (List.mem_of_getElem? (i := 80) rfl)
theorem wd81 {a0 : Array Value} {Z : State} (hw : ∀ d ∈ tables_1, d.before a0 Z = true) : (Jvm.Cond.methodLink "com/example/rickyard/rickyard/HarvestStateInProgressPinLaw" (39 : Nat) ({ cls := "com/example/rickyard/rickyard/HarvestState", name := "begin", desc := "(Ljava/lang/String;)Lcom/example/rickyard/rickyard/HarvestState;" } : Jvm.MethodName)).before a0 Z = true := hw _ (List.mem_of_getElem? (i := 81) rfl)
theorem wd82 {a0 : Array Value} {Z : State} (hw : ∀ d ∈ tables_1, d.before a0 Z = true) : (Jvm.Cond.declares ({ cls := "com/example/rickyard/rickyard/HarvestState", name := "begin", desc := "(Ljava/lang/String;)Lcom/example/rickyard/rickyard/HarvestState;" } : Jvm.MethodName)).before a0 Z = true := hw _ (List.mem_of_getElem? (i := 82) rfl)
theorem wd83 {a0 : Array Value} {Z : State} (hw : ∀ d ∈ tables_1, d.before a0 Z = true) : (Jvm.Cond.instanceMethod ({ cls := "com/example/rickyard/rickyard/HarvestState", name := "begin", desc := "(Ljava/lang/String;)Lcom/example/rickyard/rickyard/HarvestState;" } : Jvm.MethodName)).before a0 Z = true := hw _ (List.mem_of_getElem? (i := 83) rfl)
theorem wd84 {a0 : Array Value} {Z : State} (hw : ∀ d ∈ tables_1, d.before a0 Z = true) : (Jvm.Cond.selects "com/example/rickyard/rickyard/HarvestState" ({ cls := "com/example/rickyard/rickyard/HarvestState", name := "begin", desc := "(Ljava/lang/String;)Lcom/example/rickyard/rickyard/HarvestState;" } : Jvm.MethodName) ({ cls := "com/example/rickyard/rickyard/HarvestState", name := "begin", desc := "(Ljava/lang/String;)Lcom/example/rickyard/rickyard/HarvestState;" } : Jvm.MethodName)).before a0 Z = true := hw _ (List.mem_of_getElem? (i := 84) rfl)
theorem wd85 {a0 : Array Value} {Z : State} (hw : ∀ d ∈ tables_1, d.before a0 Z = true) : (Jvm.Cond.code ({ cls := "com/example/rickyard/rickyard/HarvestState", name := "begin", desc := "(Ljava/lang/String;)Lcom/example/rickyard/rickyard/HarvestState;" } : Jvm.MethodName) prog_1_method_4_code (2 : Nat) (Option.some (Jvm.ClassFile.FieldType.object "com/example/rickyard/rickyard/HarvestState"))).before a0 Z = true := hw _ (List.mem_of_getElem? (i := 85) rfl)
theorem wd86 {a0 : Array Value} {Z : State} (hw : ∀ d ∈ tables_1, d.before a0 Z = true) : (Jvm.Cond.methodLink "com/example/rickyard/rickyard/HarvestStateInProgressPinLaw" (43 : Nat) ({ cls := "com/example/rickyard/rickyard/HarvestState", name := "none", desc := "(Ljava/lang/String;Ljava/lang/String;Ljava/lang/String;)Lcom/example/rickyard/rickyard/HarvestState;" } : Jvm.MethodName)).before a0 Z = true := hw _ (List.mem_of_getElem? (i := 86) rfl)
theorem wd87 {a0 : Array Value} {Z : State} (hw : ∀ d ∈ tables_1, d.before a0 Z = true) : (Jvm.Cond.static ({ cls := "com/example/rickyard/rickyard/HarvestState", name := "none", desc := "(Ljava/lang/String;Ljava/lang/String;Ljava/lang/String;)Lcom/example/rickyard/rickyard/HarvestState;" } : Jvm.MethodName)).before a0 Z = true := hw _ (List.mem_of_getElem? (i := 87) rfl)
theorem wd88 {a0 : Array Value} {Z : State} (hw : ∀ d ∈ tables_1, d.before a0 Z = true) : (Jvm.Cond.code ({ cls := "com/example/rickyard/rickyard/HarvestState", name := "none", desc := "(Ljava/lang/String;Ljava/lang/String;Ljava/lang/String;)Lcom/example/rickyard/rickyard/HarvestState;" } : Jvm.MethodName) prog_1_method_2_code (3 : Nat) (Option.some (Jvm.ClassFile.FieldType.object "com/example/rickyard/rickyard/HarvestState"))).before a0 Z = true := hw _ (List.mem_of_getElem? (i := 88) rfl)
theorem d_jdk_43_method_3_code_0 : decode jdk_43_method_3_code 0 = .ok (.iload_n 0, 1) := by decide +kernel
theorem d_jdk_43_method_3_code_1 : decode jdk_43_method_3_code 1 = .ok (.sipush 255, 3) := by decide +kernel
theorem d_jdk_43_method_3_code_4 : decode jdk_43_method_3_code 4 = .ok (.if_icmp .gt 7, 3) := by decide +kernel
theorem d_jdk_43_method_3_code_7 : decode jdk_43_method_3_code 7 = .ok (.iconst 1, 1) := by decide +kernel
theorem d_jdk_43_method_3_code_8 : decode jdk_43_method_3_code 8 = .ok (.goto 4, 3) := by decide +kernel
theorem d_jdk_43_method_3_code_12 : decode jdk_43_method_3_code 12 = .ok (.ireturn, 1) := by decide +kernel
theorem d_jdk_43_method_46_code_0 : decode jdk_43_method_46_code 0 = .ok (.iconst 1, 1) := by decide +kernel
theorem d_jdk_43_method_46_code_1 : decode jdk_43_method_46_code 1 = .ok (.newarray .byte, 2) := by decide +kernel
theorem d_jdk_43_method_46_code_3 : decode jdk_43_method_46_code 3 = .ok (.dup, 1) := by decide +kernel
theorem d_jdk_43_method_46_code_4 : decode jdk_43_method_46_code 4 = .ok (.iconst 0, 1) := by decide +kernel
theorem d_jdk_43_method_46_code_5 : decode jdk_43_method_46_code 5 = .ok (.iload_n 0, 1) := by decide +kernel
theorem d_jdk_43_method_46_code_6 : decode jdk_43_method_46_code 6 = .ok (.i2b, 1) := by decide +kernel
theorem d_jdk_43_method_46_code_7 : decode jdk_43_method_46_code 7 = .ok (.bastore, 1) := by decide +kernel
theorem d_jdk_43_method_46_code_8 : decode jdk_43_method_46_code 8 = .ok (.areturn, 1) := by decide +kernel
theorem d_jdk_42_method_151_code_0 : decode jdk_42_method_151_code 0 = .ok (.aload_n 0, 1) := by decide +kernel
theorem d_jdk_42_method_151_code_1 : decode jdk_42_method_151_code 1 = .ok (.invokespecial 1, 3) := by decide +kernel
theorem d_jdk_42_method_151_code_4 : decode jdk_42_method_151_code 4 = .ok (.aload_n 0, 1) := by decide +kernel
theorem d_jdk_42_method_151_code_5 : decode jdk_42_method_151_code 5 = .ok (.aload_n 1, 1) := by decide +kernel
theorem d_jdk_42_method_151_code_6 : decode jdk_42_method_151_code 6 = .ok (.putfield 9, 3) := by decide +kernel
theorem d_jdk_42_method_151_code_9 : decode jdk_42_method_151_code 9 = .ok (.aload_n 0, 1) := by decide +kernel
theorem d_jdk_42_method_151_code_10 : decode jdk_42_method_151_code 10 = .ok (.iload_n 2, 1) := by decide +kernel
theorem d_jdk_42_method_151_code_11 : decode jdk_42_method_151_code 11 = .ok (.putfield 15, 3) := by decide +kernel
theorem d_jdk_42_method_151_code_14 : decode jdk_42_method_151_code 14 = .ok (.return_, 1) := by decide +kernel
theorem d_jdk_42_method_139_code_0 : decode jdk_42_method_139_code 0 = .ok (.getstatic 38, 3) := by decide +kernel
theorem d_jdk_42_method_139_code_3 : decode jdk_42_method_139_code 3 = .ok (.ifCond .eq 23, 3) := by decide +kernel
theorem d_jdk_42_method_139_code_6 : decode jdk_42_method_139_code 6 = .ok (.iload_n 0, 1) := by decide +kernel
theorem d_jdk_42_method_139_code_7 : decode jdk_42_method_139_code 7 = .ok (.invokestatic 1015, 3) := by decide +kernel
theorem d_jdk_42_method_139_code_10 : decode jdk_42_method_139_code 10 = .ok (.ifCond .eq 16, 3) := by decide +kernel
theorem d_jdk_42_method_139_code_13 : decode jdk_42_method_139_code 13 = .ok (.new 10, 3) := by decide +kernel
theorem d_jdk_42_method_139_code_16 : decode jdk_42_method_139_code 16 = .ok (.dup, 1) := by decide +kernel
theorem d_jdk_42_method_139_code_17 : decode jdk_42_method_139_code 17 = .ok (.iload_n 0, 1) := by decide +kernel
theorem d_jdk_42_method_139_code_18 : decode jdk_42_method_139_code 18 = .ok (.invokestatic 1018, 3) := by decide +kernel
theorem d_jdk_42_method_139_code_21 : decode jdk_42_method_139_code 21 = .ok (.iconst 0, 1) := by decide +kernel
theorem d_jdk_42_method_139_code_22 : decode jdk_42_method_139_code 22 = .ok (.invokespecial 209, 3) := by decide +kernel
theorem d_jdk_42_method_139_code_25 : decode jdk_42_method_139_code 25 = .ok (.areturn, 1) := by decide +kernel
theorem d_jdk_42_method_149_code_0 : decode jdk_42_method_149_code 0 = .ok (.aload_n 0, 1) := by decide +kernel
theorem d_jdk_42_method_149_code_1 : decode jdk_42_method_149_code 1 = .ok (.invokespecial 1, 3) := by decide +kernel
theorem d_jdk_42_method_149_code_4 : decode jdk_42_method_149_code 4 = .ok (.iload_n 3, 1) := by decide +kernel
theorem d_jdk_42_method_149_code_5 : decode jdk_42_method_149_code 5 = .ok (.ifCond .ne 22, 3) := by decide +kernel
theorem d_jdk_42_method_149_code_8 : decode jdk_42_method_149_code 8 = .ok (.aload_n 0, 1) := by decide +kernel
theorem d_jdk_42_method_149_code_9 : decode jdk_42_method_149_code 9 = .ok (.ldc 7, 2) := by decide +kernel
theorem d_jdk_42_method_149_code_11 : decode jdk_42_method_149_code 11 = .ok (.getfield 9, 3) := by decide +kernel
theorem d_jdk_42_method_149_code_14 : decode jdk_42_method_149_code 14 = .ok (.putfield 9, 3) := by decide +kernel
theorem d_jdk_42_method_149_code_17 : decode jdk_42_method_149_code 17 = .ok (.aload_n 0, 1) := by decide +kernel
theorem d_jdk_42_method_149_code_18 : decode jdk_42_method_149_code 18 = .ok (.ldc 7, 2) := by decide +kernel
theorem d_jdk_42_method_149_code_20 : decode jdk_42_method_149_code 20 = .ok (.getfield 15, 3) := by decide +kernel
theorem d_jdk_42_method_149_code_23 : decode jdk_42_method_149_code 23 = .ok (.putfield 15, 3) := by decide +kernel
theorem d_jdk_42_method_149_code_26 : decode jdk_42_method_149_code 26 = .ok (.return_, 1) := by decide +kernel
theorem d_jdk_42_method_3_code_0 : decode jdk_42_method_3_code 0 = .ok (.aload_n 0, 1) := by decide +kernel
theorem d_jdk_42_method_3_code_1 : decode jdk_42_method_3_code 1 = .ok (.aload_n 1, 1) := by decide +kernel
theorem d_jdk_42_method_3_code_2 : decode jdk_42_method_3_code 2 = .ok (.iconst 0, 1) := by decide +kernel
theorem d_jdk_42_method_3_code_3 : decode jdk_42_method_3_code 3 = .ok (.aload_n 1, 1) := by decide +kernel
theorem d_jdk_42_method_3_code_4 : decode jdk_42_method_3_code 4 = .ok (.arraylength, 1) := by decide +kernel
theorem d_jdk_42_method_3_code_5 : decode jdk_42_method_3_code 5 = .ok (.aconst_null, 1) := by decide +kernel
theorem d_jdk_42_method_3_code_6 : decode jdk_42_method_3_code 6 = .ok (.invokespecial 27, 3) := by decide +kernel
theorem d_jdk_42_method_3_code_9 : decode jdk_42_method_3_code 9 = .ok (.return_, 1) := by decide +kernel
theorem d_method_2_code_0 : decode method_2_code 0 = .ok (.iload_n 0, 1) := by decide +kernel
theorem d_method_2_code_1 : decode method_2_code 1 = .ok (.iconst 1, 1) := by decide +kernel
theorem d_method_2_code_2 : decode method_2_code 2 = .ok (.iand, 1) := by decide +kernel
theorem d_method_2_code_3 : decode method_2_code 3 = .ok (.ifCond .ne 5, 3) := by decide +kernel
theorem d_method_2_code_6 : decode method_2_code 6 = .ok (.aconst_null, 1) := by decide +kernel
theorem d_method_2_code_7 : decode method_2_code 7 = .ok (.areturn, 1) := by decide +kernel
theorem d_method_2_code_8 : decode method_2_code 8 = .ok (.iload_n 0, 1) := by decide +kernel
theorem d_method_2_code_9 : decode method_2_code 9 = .ok (.iconst 2, 1) := by decide +kernel
theorem d_method_2_code_10 : decode method_2_code 10 = .ok (.iand, 1) := by decide +kernel
theorem d_method_2_code_11 : decode method_2_code 11 = .ok (.ifCond .eq 14, 3) := by decide +kernel
theorem d_method_2_code_14 : decode method_2_code 14 = .ok (.new 7, 3) := by decide +kernel
theorem d_method_2_code_17 : decode method_2_code 17 = .ok (.dup, 1) := by decide +kernel
theorem d_method_2_code_18 : decode method_2_code 18 = .ok (.iconst 0, 1) := by decide +kernel
theorem d_method_2_code_19 : decode method_2_code 19 = .ok (.newarray .char, 2) := by decide +kernel
theorem d_method_2_code_21 : decode method_2_code 21 = .ok (.invokespecial 9, 3) := by decide +kernel
theorem d_method_2_code_24 : decode method_2_code 24 = .ok (.areturn, 1) := by decide +kernel
theorem d_method_2_code_25 : decode method_2_code 25 = .ok (.iload_n 0, 1) := by decide +kernel
theorem d_method_2_code_26 : decode method_2_code 26 = .ok (.iconst 2, 1) := by decide +kernel
theorem d_method_2_code_27 : decode method_2_code 27 = .ok (.iushr, 1) := by decide +kernel
theorem d_method_2_code_28 : decode method_2_code 28 = .ok (.sipush 255, 3) := by decide +kernel
theorem d_method_2_code_31 : decode method_2_code 31 = .ok (.iand, 1) := by decide +kernel
theorem d_method_2_code_32 : decode method_2_code 32 = .ok (.i2c, 1) := by decide +kernel
theorem d_method_2_code_33 : decode method_2_code 33 = .ok (.invokestatic 12, 3) := by decide +kernel
theorem d_method_2_code_36 : decode method_2_code 36 = .ok (.areturn, 1) := by decide +kernel
theorem d_jdk_30_method_1_code_0 : decode jdk_30_method_1_code 0 = .ok (.aload_n 0, 1) := by decide +kernel
theorem d_jdk_30_method_1_code_1 : decode jdk_30_method_1_code 1 = .ok (.invokespecial 1, 3) := by decide +kernel
theorem d_jdk_30_method_1_code_4 : decode jdk_30_method_1_code 4 = .ok (.return_, 1) := by decide +kernel
theorem d_prog_1_method_1_code_0 : decode prog_1_method_1_code 0 = .ok (.aload_n 0, 1) := by decide +kernel
theorem d_prog_1_method_1_code_1 : decode prog_1_method_1_code 1 = .ok (.invokespecial 1, 3) := by decide +kernel
theorem d_prog_1_method_1_code_4 : decode prog_1_method_1_code 4 = .ok (.aload_n 0, 1) := by decide +kernel
theorem d_prog_1_method_1_code_5 : decode prog_1_method_1_code 5 = .ok (.aload_n 1, 1) := by decide +kernel
theorem d_prog_1_method_1_code_6 : decode prog_1_method_1_code 6 = .ok (.putfield 7, 3) := by decide +kernel
theorem d_prog_1_method_1_code_9 : decode prog_1_method_1_code 9 = .ok (.aload_n 0, 1) := by decide +kernel
theorem d_prog_1_method_1_code_10 : decode prog_1_method_1_code 10 = .ok (.aload_n 2, 1) := by decide +kernel
theorem d_prog_1_method_1_code_11 : decode prog_1_method_1_code 11 = .ok (.putfield 13, 3) := by decide +kernel
theorem d_prog_1_method_1_code_14 : decode prog_1_method_1_code 14 = .ok (.aload_n 0, 1) := by decide +kernel
theorem d_prog_1_method_1_code_15 : decode prog_1_method_1_code 15 = .ok (.aload_n 3, 1) := by decide +kernel
theorem d_prog_1_method_1_code_16 : decode prog_1_method_1_code 16 = .ok (.putfield 16, 3) := by decide +kernel
theorem d_prog_1_method_1_code_19 : decode prog_1_method_1_code 19 = .ok (.aload_n 0, 1) := by decide +kernel
theorem d_prog_1_method_1_code_20 : decode prog_1_method_1_code 20 = .ok (.aload 4, 2) := by decide +kernel
theorem d_prog_1_method_1_code_22 : decode prog_1_method_1_code 22 = .ok (.putfield 19, 3) := by decide +kernel
theorem d_prog_1_method_1_code_25 : decode prog_1_method_1_code 25 = .ok (.aload_n 0, 1) := by decide +kernel
theorem d_prog_1_method_1_code_26 : decode prog_1_method_1_code 26 = .ok (.aload 5, 2) := by decide +kernel
theorem d_prog_1_method_1_code_28 : decode prog_1_method_1_code 28 = .ok (.putfield 22, 3) := by decide +kernel
theorem d_prog_1_method_1_code_31 : decode prog_1_method_1_code 31 = .ok (.aload_n 0, 1) := by decide +kernel
theorem d_prog_1_method_1_code_32 : decode prog_1_method_1_code 32 = .ok (.aload 6, 2) := by decide +kernel
theorem d_prog_1_method_1_code_34 : decode prog_1_method_1_code 34 = .ok (.putfield 25, 3) := by decide +kernel
theorem d_prog_1_method_1_code_37 : decode prog_1_method_1_code 37 = .ok (.aload_n 0, 1) := by decide +kernel
theorem d_prog_1_method_1_code_38 : decode prog_1_method_1_code 38 = .ok (.aload 7, 2) := by decide +kernel
theorem d_prog_1_method_1_code_40 : decode prog_1_method_1_code 40 = .ok (.putfield 28, 3) := by decide +kernel
theorem d_prog_1_method_1_code_43 : decode prog_1_method_1_code 43 = .ok (.return_, 1) := by decide +kernel
theorem d_prog_1_method_3_code_0 : decode prog_1_method_3_code 0 = .ok (.aload_n 0, 1) := by decide +kernel
theorem d_prog_1_method_3_code_1 : decode prog_1_method_3_code 1 = .ok (.getfield 28, 3) := by decide +kernel
theorem d_prog_1_method_3_code_4 : decode prog_1_method_3_code 4 = .ok (.ifnull 7, 3) := by decide +kernel
theorem d_prog_1_method_3_code_7 : decode prog_1_method_3_code 7 = .ok (.iconst 1, 1) := by decide +kernel
theorem d_prog_1_method_3_code_8 : decode prog_1_method_3_code 8 = .ok (.goto 4, 3) := by decide +kernel
theorem d_prog_1_method_3_code_11 : decode prog_1_method_3_code 11 = .ok (.iconst 0, 1) := by decide +kernel
theorem d_prog_1_method_3_code_12 : decode prog_1_method_3_code 12 = .ok (.ireturn, 1) := by decide +kernel
theorem d_prog_1_method_5_code_0 : decode prog_1_method_5_code 0 = .ok (.aload_n 0, 1) := by decide +kernel
theorem d_prog_1_method_5_code_1 : decode prog_1_method_5_code 1 = .ok (.getfield 22, 3) := by decide +kernel
theorem d_prog_1_method_5_code_4 : decode prog_1_method_5_code 4 = .ok (.ifnull 10, 3) := by decide +kernel
theorem d_prog_1_method_5_code_7 : decode prog_1_method_5_code 7 = .ok (.aload_n 0, 1) := by decide +kernel
theorem d_prog_1_method_5_code_8 : decode prog_1_method_5_code 8 = .ok (.getfield 22, 3) := by decide +kernel
theorem d_prog_1_method_5_code_11 : decode prog_1_method_5_code 11 = .ok (.goto 4, 3) := by decide +kernel
theorem d_prog_1_method_5_code_14 : decode prog_1_method_5_code 14 = .ok (.aload_n 1, 1) := by decide +kernel
theorem d_prog_1_method_5_code_15 : decode prog_1_method_5_code 15 = .ok (.astore_n 3, 1) := by decide +kernel
theorem d_prog_1_method_5_code_16 : decode prog_1_method_5_code 16 = .ok (.aload_n 2, 1) := by decide +kernel
theorem d_prog_1_method_5_code_17 : decode prog_1_method_5_code 17 = .ok (.ifnull 35, 3) := by decide +kernel
theorem d_prog_1_method_5_code_20 : decode prog_1_method_5_code 20 = .ok (.new 8, 3) := by decide +kernel
theorem d_prog_1_method_5_code_23 : decode prog_1_method_5_code 23 = .ok (.dup, 1) := by decide +kernel
theorem d_prog_1_method_5_code_24 : decode prog_1_method_5_code 24 = .ok (.aload_n 0, 1) := by decide +kernel
theorem d_prog_1_method_5_code_25 : decode prog_1_method_5_code 25 = .ok (.getfield 7, 3) := by decide +kernel
theorem d_prog_1_method_5_code_28 : decode prog_1_method_5_code 28 = .ok (.aload_n 0, 1) := by decide +kernel
theorem d_prog_1_method_5_code_29 : decode prog_1_method_5_code 29 = .ok (.getfield 13, 3) := by decide +kernel
theorem d_prog_1_method_5_code_32 : decode prog_1_method_5_code 32 = .ok (.aload_n 0, 1) := by decide +kernel
theorem d_prog_1_method_5_code_33 : decode prog_1_method_5_code 33 = .ok (.getfield 16, 3) := by decide +kernel
theorem d_prog_1_method_5_code_36 : decode prog_1_method_5_code 36 = .ok (.aload_n 0, 1) := by decide +kernel
theorem d_prog_1_method_5_code_37 : decode prog_1_method_5_code 37 = .ok (.getfield 19, 3) := by decide +kernel
theorem d_prog_1_method_5_code_40 : decode prog_1_method_5_code 40 = .ok (.aload_n 3, 1) := by decide +kernel
theorem d_prog_1_method_5_code_41 : decode prog_1_method_5_code 41 = .ok (.aload_n 0, 1) := by decide +kernel
theorem d_prog_1_method_5_code_42 : decode prog_1_method_5_code 42 = .ok (.getfield 25, 3) := by decide +kernel
theorem d_prog_1_method_5_code_45 : decode prog_1_method_5_code 45 = .ok (.aload_n 2, 1) := by decide +kernel
theorem d_prog_1_method_5_code_46 : decode prog_1_method_5_code 46 = .ok (.invokespecial 31, 3) := by decide +kernel
theorem d_prog_1_method_5_code_49 : decode prog_1_method_5_code 49 = .ok (.goto 26, 3) := by decide +kernel
theorem d_prog_1_method_5_code_52 : decode prog_1_method_5_code 52 = .ok (.new 8, 3) := by decide +kernel
theorem d_prog_1_method_5_code_55 : decode prog_1_method_5_code 55 = .ok (.dup, 1) := by decide +kernel
theorem d_prog_1_method_5_code_56 : decode prog_1_method_5_code 56 = .ok (.aload_n 0, 1) := by decide +kernel
theorem d_prog_1_method_5_code_57 : decode prog_1_method_5_code 57 = .ok (.getfield 7, 3) := by decide +kernel
theorem d_prog_1_method_5_code_60 : decode prog_1_method_5_code 60 = .ok (.aload_n 0, 1) := by decide +kernel
theorem d_prog_1_method_5_code_61 : decode prog_1_method_5_code 61 = .ok (.getfield 13, 3) := by decide +kernel
theorem d_prog_1_method_5_code_64 : decode prog_1_method_5_code 64 = .ok (.aload_n 0, 1) := by decide +kernel
theorem d_prog_1_method_5_code_65 : decode prog_1_method_5_code 65 = .ok (.getfield 16, 3) := by decide +kernel
theorem d_prog_1_method_5_code_68 : decode prog_1_method_5_code 68 = .ok (.aload_n 3, 1) := by decide +kernel
theorem d_prog_1_method_5_code_69 : decode prog_1_method_5_code 69 = .ok (.aconst_null, 1) := by decide +kernel
theorem d_prog_1_method_5_code_70 : decode prog_1_method_5_code 70 = .ok (.aconst_null, 1) := by decide +kernel
theorem d_prog_1_method_5_code_71 : decode prog_1_method_5_code 71 = .ok (.aconst_null, 1) := by decide +kernel
theorem d_prog_1_method_5_code_72 : decode prog_1_method_5_code 72 = .ok (.invokespecial 31, 3) := by decide +kernel
theorem d_prog_1_method_5_code_75 : decode prog_1_method_5_code 75 = .ok (.areturn, 1) := by decide +kernel
theorem d_prog_1_method_4_code_0 : decode prog_1_method_4_code 0 = .ok (.new 8, 3) := by decide +kernel
theorem d_prog_1_method_4_code_3 : decode prog_1_method_4_code 3 = .ok (.dup, 1) := by decide +kernel
theorem d_prog_1_method_4_code_4 : decode prog_1_method_4_code 4 = .ok (.aload_n 0, 1) := by decide +kernel
theorem d_prog_1_method_4_code_5 : decode prog_1_method_4_code 5 = .ok (.getfield 7, 3) := by decide +kernel
theorem d_prog_1_method_4_code_8 : decode prog_1_method_4_code 8 = .ok (.aload_n 0, 1) := by decide +kernel
theorem d_prog_1_method_4_code_9 : decode prog_1_method_4_code 9 = .ok (.getfield 13, 3) := by decide +kernel
theorem d_prog_1_method_4_code_12 : decode prog_1_method_4_code 12 = .ok (.aload_n 0, 1) := by decide +kernel
theorem d_prog_1_method_4_code_13 : decode prog_1_method_4_code 13 = .ok (.getfield 16, 3) := by decide +kernel
theorem d_prog_1_method_4_code_16 : decode prog_1_method_4_code 16 = .ok (.aload_n 0, 1) := by decide +kernel
theorem d_prog_1_method_4_code_17 : decode prog_1_method_4_code 17 = .ok (.getfield 19, 3) := by decide +kernel
theorem d_prog_1_method_4_code_20 : decode prog_1_method_4_code 20 = .ok (.aconst_null, 1) := by decide +kernel
theorem d_prog_1_method_4_code_21 : decode prog_1_method_4_code 21 = .ok (.aload_n 1, 1) := by decide +kernel
theorem d_prog_1_method_4_code_22 : decode prog_1_method_4_code 22 = .ok (.aconst_null, 1) := by decide +kernel
theorem d_prog_1_method_4_code_23 : decode prog_1_method_4_code 23 = .ok (.invokespecial 31, 3) := by decide +kernel
theorem d_prog_1_method_4_code_26 : decode prog_1_method_4_code 26 = .ok (.areturn, 1) := by decide +kernel
theorem d_prog_1_method_2_code_0 : decode prog_1_method_2_code 0 = .ok (.new 8, 3) := by decide +kernel
theorem d_prog_1_method_2_code_3 : decode prog_1_method_2_code 3 = .ok (.dup, 1) := by decide +kernel
theorem d_prog_1_method_2_code_4 : decode prog_1_method_2_code 4 = .ok (.aload_n 0, 1) := by decide +kernel
theorem d_prog_1_method_2_code_5 : decode prog_1_method_2_code 5 = .ok (.aload_n 1, 1) := by decide +kernel
theorem d_prog_1_method_2_code_6 : decode prog_1_method_2_code 6 = .ok (.aload_n 2, 1) := by decide +kernel
theorem d_prog_1_method_2_code_7 : decode prog_1_method_2_code 7 = .ok (.aconst_null, 1) := by decide +kernel
theorem d_prog_1_method_2_code_8 : decode prog_1_method_2_code 8 = .ok (.aconst_null, 1) := by decide +kernel
theorem d_prog_1_method_2_code_9 : decode prog_1_method_2_code 9 = .ok (.aconst_null, 1) := by decide +kernel
theorem d_prog_1_method_2_code_10 : decode prog_1_method_2_code 10 = .ok (.aconst_null, 1) := by decide +kernel
theorem d_prog_1_method_2_code_11 : decode prog_1_method_2_code 11 = .ok (.invokespecial 31, 3) := by decide +kernel
theorem d_prog_1_method_2_code_14 : decode prog_1_method_2_code 14 = .ok (.areturn, 1) := by decide +kernel
theorem pn0 : plainName "java/lang/StringLatin1" = true := by first | (simp [plainName, overriddenIn]; done) | decide +kernel
theorem pn1 : plainName "java/lang/String" = true := by first | (simp [plainName, overriddenIn]; done) | decide +kernel
theorem pn2 : plainName "com/example/rickyard/rickyard/HarvestStateInProgressPinLaw" = true := by first | (simp [plainName, overriddenIn]; done) | decide +kernel
theorem pn3 : plainName "java/lang/Record" = true := by first | (simp [plainName, overriddenIn]; done) | decide +kernel
theorem pn4 : plainName "com/example/rickyard/rickyard/HarvestState" = true := by first | (simp [plainName, overriddenIn]; done) | decide +kernel
theorem pd0 : parseMethodDescriptor "(C)Z" = some ⟨[.char], some .boolean⟩ := by decide +kernel
theorem pd1 : parseMethodDescriptor "(C)[B" = some ⟨[.char], some (.array .byte)⟩ := by decide +kernel
theorem pd2 : parseMethodDescriptor "([BB)V" = some ⟨[(.array .byte), .byte], none⟩ := by decide +kernel
theorem pd3 : parseMethodDescriptor "([CIILjava/lang/Void;)V" = some ⟨[(.array .char), .int, .int, (.object "java/lang/Void")], none⟩ := by decide +kernel
theorem pd4 : parseMethodDescriptor "(C)Ljava/lang/String;" = some ⟨[.char], some (.object "java/lang/String")⟩ := by decide +kernel
theorem pd5 : parseMethodDescriptor "([C)V" = some ⟨[(.array .char)], none⟩ := by decide +kernel
theorem pd6 : parseMethodDescriptor "()V" = some ⟨[], none⟩ := by decide +kernel
theorem pd7 : parseMethodDescriptor "(Ljava/lang/String;Ljava/lang/String;Ljava/lang/String;Ljava/lang/String;Ljava/lang/String;Ljava/lang/String;Ljava/lang/String;)V" = some ⟨[(.object "java/lang/String"), (.object "java/lang/String"), (.object "java/lang/String"), (.object "java/lang/String"), (.object "java/lang/String"), (.object "java/lang/String"), (.object "java/lang/String")], none⟩ := by decide +kernel
theorem pd8 : parseMethodDescriptor "(I)Ljava/lang/String;" = some ⟨[.int], some (.object "java/lang/String")⟩ := by decide +kernel
theorem pd9 : parseMethodDescriptor "()Z" = some ⟨[], some .boolean⟩ := by decide +kernel
theorem pd10 : parseMethodDescriptor "(Ljava/lang/String;Ljava/lang/String;)Lcom/example/rickyard/rickyard/HarvestState;" = some ⟨[(.object "java/lang/String"), (.object "java/lang/String")], some (.object "com/example/rickyard/rickyard/HarvestState")⟩ := by decide +kernel
theorem pd11 : parseMethodDescriptor "(Ljava/lang/String;)Lcom/example/rickyard/rickyard/HarvestState;" = some ⟨[(.object "java/lang/String")], some (.object "com/example/rickyard/rickyard/HarvestState")⟩ := by decide +kernel
theorem pd12 : parseMethodDescriptor "(Ljava/lang/String;Ljava/lang/String;Ljava/lang/String;)Lcom/example/rickyard/rickyard/HarvestState;" = some ⟨[(.object "java/lang/String"), (.object "java/lang/String"), (.object "java/lang/String")], some (.object "com/example/rickyard/rickyard/HarvestState")⟩ := by decide +kernel
/-- what is known of the constant "": nobody has loaded it, or it is known where it lies -/
def LE (Z : State) (h : Heap) (Ts : TsT) (Li : LiT) (os : List String) : Prop := ∃ Tl, Ts = some Tl ∧ (∀ t ∈ Tl, t ∈ "" :: os) ∧ ("" ∉ Tl ∨ ∃ a b, ("java/lang/String", 7, a) ∈ Li ∧ Fld Z h a "java/lang/String" "coder" "B" (.int 0) ∧ Fld Z h a "java/lang/String" "value" "[B" (.ref b))
theorem LE.kq {Z : State} {h h' : Heap} {Ts : TsT} {Li : LiT} {os : List String} (L : LE Z h Ts Li os) (K : Kq h h' noW) : LE Z h' Ts Li os := by
  obtain ⟨Tl, e, q, r⟩ := L
  exact ⟨Tl, e, q, r.imp id fun ⟨a, b, i, f1, f2⟩ => ⟨a, b, i, f1.kq K (fun q => q), f2.kq K (fun q => q)⟩⟩
theorem LE.load {Z : State} {h h' : Heap} {Tl : List String} {Li : LiT} {os : List String} {t : String} {y : String × Nat × Addr} (L : LE Z h (some Tl) Li os) (ht : t ≠ "") (K : Kq h h' noW) : LE Z h' (some (t :: Tl)) (y :: Li) (t :: os) := by
  obtain ⟨Tl', e, q, r⟩ := L.kq K
  cases e
  refine ⟨_, rfl, fun s hs => ?_, r.imp (fun n m => (List.mem_cons.mp m).elim (fun e => ht e.symm) n) fun ⟨a, b, i, f1, f2⟩ => ⟨a, b, List.mem_cons_of_mem _ i, f1, f2⟩⟩
  rcases List.mem_cons.mp hs with rfl | hs
  · exact List.mem_cons_of_mem _ (List.mem_cons_self ..)
  · rcases List.mem_cons.mp (q s hs) with rfl | m
    · exact List.mem_cons_self ..
    · exact List.mem_cons_of_mem _ (List.mem_cons_of_mem _ m)
theorem LE.not {Z : State} {h : Heap} {Ts : TsT} {Li : LiT} {os : List String} (L : LE Z h Ts Li os) {t : String} (ht : t ∉ "" :: os) : ∃ Tl, Ts = some Tl ∧ t ∉ Tl := by
  obtain ⟨Tl, e, q, -⟩ := L
  exact ⟨Tl, e, fun m => ht (q t m)⟩
theorem own_c255 (x : Int32) : ¬ (255 : Int32) < (Int32.toUInt32 (x &&& (255 : Int32))).toUInt16.toUInt32.toInt32 := by
  have t : ∀ k : Fin 256, ¬ (255 : Int32) < ((Int32.ofNat k.val).toUInt32.toUInt16.toUInt32.toInt32) := by decide +kernel
  have h : (x &&& 255).toBitVec.toNat < 256 := by
    simp only [Int32.toBitVec_and, BitVec.toNat_and]
    exact Nat.lt_succ_of_le Nat.and_le_right
  have e : (x &&& 255) = Int32.ofNat (x &&& 255).toBitVec.toNat := by
    apply Int32.toBitVec_inj.mp
    show _ = BitVec.ofNat 32 _
    rw [BitVec.ofNat_toNat]; simp
  rw [e]
  exact t ⟨_, h⟩
set_option maxRecDepth 65536 in
set_option maxHeartbeats 40000000 in
theorem c_canEncC {Z : State} {a0 : Array Value} (hw : ∀ d ∈ tables_1, d.before a0 Z = true) {h : Heap} {Ts : TsT} {Li : LiT} (c : Int32) (h2 : ¬ (255 : Int32) < c) :
    Con Z (⟨"java/lang/StringLatin1", "canEncode", "(C)Z"⟩ : MethodName) jdk_43_method_3_code 1 (some .boolean) ({ frames := 0, cells := 0, slots := 0, locals := 0 } : Room) [(.int c)] h Ts Li (noW) (Pu (some (.int 1)) h Ts Li) := by
  refine Con.of (ws := Fw h noW) (Ls := #[.val (.int c)]) (plainFor_of_name pn0) (fun m => by first | rfl | (simp [entryFrame, mkF, argsToLocals, Value.category]; done)) (fun E0 => ?_)
  refine Walk.iloadN (pc' := 1) d_jdk_43_method_3_code_0 rfl ?_
  refine Walk.sipush (pc' := 4) (255 : Int32) d_jdk_43_method_3_code_1 rfl ?_
  refine Walk.icNo (pc' := 7) d_jdk_43_method_3_code_4 (XT.ii_gt_f h2) ?_
  refine Walk.iconst (pc' := 8) (1 : Int32) d_jdk_43_method_3_code_7 rfl ?_
  refine Walk.goto (pc' := 12) d_jdk_43_method_3_code_8 ?_
  exact Walk.nret d_jdk_43_method_3_code_12 rfl (by simp) ⟨rfl, rfl, rfl, rfl⟩ (fun _ q => q) (Nat.le_of_ble_eq_true rfl) (Nat.le_of_ble_eq_true rfl)
set_option maxRecDepth 65536 in
set_option maxHeartbeats 40000000 in
theorem c_toB {Z : State} {a0 : Array Value} (hw : ∀ d ∈ tables_1, d.before a0 Z = true) {h : Heap} {Ts : TsT} {Li : LiT} (c : Int32) :
    Con Z (⟨"java/lang/StringLatin1", "toBytes", "(C)[B"⟩ : MethodName) jdk_43_method_46_code 1 (some (.array .byte)) ({ frames := 0, cells := 1, slots := 1, locals := 0 } : Room) [(.int c)] h Ts Li (noW) (fun v h' Ts' Li' => (∃ t, v = some (.ref t) ∧ h.size ≤ t) ∧ Ts' = Ts ∧ Li' = Li) := by
  refine Con.of (ws := Fw h noW) (Ls := #[.val (.int c)]) (plainFor_of_name pn0) (fun m => by first | rfl | (simp [entryFrame, mkF, argsToLocals, Value.category]; done)) (fun E0 => ?_)
  refine Walk.iconst (pc' := 1) (1 : Int32) d_jdk_43_method_46_code_0 rfl ?_
  refine Walk.newA (pc' := 3) (aty := .byte) (cap := 1) (wd19 hw) d_jdk_43_method_46_code_1 (by decide) (by decide) (by decide) (by decide) (by decide) (fun h1 x3 g4 g5 g6 K2 A7 R8 => ?_)
  refine Walk.dup (pc' := 4) d_jdk_43_method_46_code_3 rfl ?_
  refine Walk.iconst (pc' := 5) (0 : Int32) d_jdk_43_method_46_code_4 rfl ?_
  refine Walk.iloadN (pc' := 6) d_jdk_43_method_46_code_5 rfl ?_
  refine Walk.i2b (pc' := 7) d_jdk_43_method_46_code_6 ?_
  refine Walk.bastore (pc' := 8) (i := 0) A7 d_jdk_43_method_46_code_7 (by decide) rfl (by decide) g6 (Fw.fresh g5) (fun h9 K10 A11 Wr12 => ?_)
  exact Walk.aret d_jdk_43_method_46_code_8 rfl rfl rfl ⟨⟨_, rfl, g4⟩, rfl, rfl⟩ (fun _ q => q) (Nat.le_of_ble_eq_true rfl) (Nat.le_of_ble_eq_true rfl)
set_option maxRecDepth 65536 in
set_option maxHeartbeats 40000000 in
theorem c_strBB {Z : State} {a0 : Array Value} (hw : ∀ d ∈ tables_1, d.before a0 Z = true) {h : Heap} {Ts : TsT} {Li : LiT} (x b : Addr) (v0 c0 : Value) (E1 : Exa Z h x "java/lang/String") (F1 : Fld Z h x "java/lang/String" "coder" "B" c0) (F2 : Fld Z h x "java/lang/String" "value" "[B" v0) (gz : Z.heap.size ≤ x) :
    Con Z (⟨"java/lang/String", "<init>", "([BB)V"⟩ : MethodName) jdk_42_method_151_code 3 none ({ frames := 1, cells := 0, slots := 0, locals := 12 } : Room) [(.ref x), (.ref b), (.int (0 : Int32))] h Ts Li (fun y => y.base = x) (fun v h' Ts' Li' => v = none ∧ Ts' = Ts ∧ Li' = Li) := by
  refine Con.of (ws := Fw h fun y => y.base = x) (Ls := #[.val (.ref x), .val (.ref b), .val (.int (0 : Int32))]) (plainFor_of_name pn1) (fun m => by first | rfl | (simp [entryFrame, mkF, argsToLocals, Value.category]; done)) (fun E0 => ?_)
  refine Walk.aloadN (pc' := 1) d_jdk_42_method_151_code_0 rfl rfl ?_
  refine Walk.initO (pc' := 4) (wd15 hw) (wd16 hw) (wd17 hw) d_jdk_42_method_151_code_1 rfl (Wd := 0) (Nat.le_of_eq rfl) (by decide) (by decide) ?_
  refine Walk.aloadN (pc' := 5) d_jdk_42_method_151_code_4 rfl rfl ?_
  refine Walk.aloadN (pc' := 6) d_jdk_42_method_151_code_5 rfl rfl ?_
  refine Walk.putF (pc' := 9) (host := "") (Or.inl (wd24 hw)) Via.refl F2 E1 (Or.inr ⟨(wd20 hw), rfl, rfl⟩) (wd5 hw) (ty := (.array .byte)) (by decide) rfl rfl d_jdk_42_method_151_code_6 gz (Fw.old rfl) (fun h13 K14 F15 => ?_)
  refine Walk.aloadN (pc' := 10) d_jdk_42_method_151_code_9 rfl rfl ?_
  refine Walk.iloadN (pc' := 11) d_jdk_42_method_151_code_10 rfl ?_
  refine Walk.putF (pc' := 14) (host := "") (Or.inl (wd25 hw)) Via.refl (F1.kq K14 (nws (slot_ne (a0 := a0) (Or.inr (wd21 hw)) (Or.inr (wd20 hw)) (by decide) (t := .byte) (by decide) (t' := (.array .byte)) (by decide)))) (E1.kq K14) (Or.inr ⟨(wd21 hw), rfl, rfl⟩) (wd5 hw) (ty := .byte) (by decide) rfl rfl d_jdk_42_method_151_code_11 gz (Fw.old rfl) (fun h16 K17 F18 => ?_)
  exact Walk.ret d_jdk_42_method_151_code_14 rfl ⟨rfl, rfl, rfl⟩ (fun _ q => q) (Nat.le_of_ble_eq_true rfl) (Nat.le_of_ble_eq_true rfl)
set_option maxRecDepth 65536 in
set_option maxHeartbeats 40000000 in
theorem c_valC {Z : State} {a0 : Array Value} (hw : ∀ d ∈ tables_1, d.before a0 Z = true) {h : Heap} {Ts : TsT} {Li : LiT} (c : Int32) (h2 : ¬ (255 : Int32) < c) (z : Int32) (hz : ¬ z = 0) (O2 : Sta Z Z.heap "java/lang/String" "COMPACT_STRINGS" "Z" (.int z)) :
    Con Z (⟨"java/lang/String", "valueOf", "(C)Ljava/lang/String;"⟩ : MethodName) jdk_42_method_139_code 1 (some (.object "java/lang/String")) ({ frames := 2, cells := 2, slots := 5, locals := 27 } : Room) [(.int c)] h Ts Li (noW) (fun v h' Ts' Li' => (∃ x, v = some (.ref x)) ∧ Ts' = Ts ∧ Li' = Li) := by
  refine Con.of (ws := Fw h noW) (Ls := #[.val (.int c)]) (plainFor_of_name pn1) (fun m => by first | rfl | (simp [entryFrame, mkF, argsToLocals, Value.category]; done)) (fun E0 => ?_)
  refine Walk.getS (pc' := 3) (wd29 hw) Via.refl O2 d_jdk_42_method_139_code_0 ?_
  refine Walk.ifNo (pc' := 6) d_jdk_42_method_139_code_3 (XT.i0_eq_f hz) ?_
  refine Walk.iloadN (pc' := 7) d_jdk_42_method_139_code_6 rfl ?_
  refine Walk.callS (pc' := 10) (Wd := 0) (as := [(.int c)]) (rest := []) (wd30 hw) (wd31 hw) (wd32 hw) (wd33 hw) ((c_canEncC hw c h2).pay (wd33 hw) (wd32 hw) (by decide) (by decide)) (hlen := lenOf pd0 rfl) (hd := d_jdk_42_method_139_code_7) (hst := rfl) (hW := Nat.le_of_eq rfl) (hsz := rfl) (hc1 := Nat.le_of_ble_eq_true rfl) (hl1 := Nat.le_of_ble_eq_true rfl) (hv := Fw.upN) (kk := fun v19 h23 Ts20 Li21 q22 K24 => ?_)
  obtain ⟨rfl, rfl, rfl, rfl⟩ := q22
  show Walk _ _ _ _ _ _ _ _ _ _ _ _ _ _ 0 0 10 _ [(.int (1 : Int32))]
  refine Walk.ifNo (pc' := 13) d_jdk_42_method_139_code_10 (XT.i0_eq_f (by decide)) ?_
  refine Walk.newO (pc' := 16) (wd34 hw) (wd5 hw) (wd6 hw) d_jdk_42_method_139_code_13 (by decide) (by decide) (fun h25 x27 g28 g29 g30 K26 E31 D32 => ?_)
  have F33 : Fld Z h25 x27 "java/lang/String" "value" "[B" .null := D32 (Or.inr (wd20 hw)) (ty := (.array .byte)) (by decide)
  have F34 : Fld Z h25 x27 "java/lang/String" "coder" "B" (.int (0 : Int32)) := D32 (Or.inr (wd21 hw)) (ty := .byte) (by decide)
  refine Walk.dup (pc' := 17) d_jdk_42_method_139_code_16 rfl ?_
  refine Walk.iloadN (pc' := 18) d_jdk_42_method_139_code_17 rfl ?_
  refine Walk.callS (pc' := 21) (Wd := 2) (as := [(.int c)]) (rest := [(.ref x27), (.ref x27)]) (wd35 hw) (wd36 hw) (wd32 hw) (wd37 hw) ((c_toB hw c).pay (wd37 hw) (wd32 hw) (by decide) (by decide)) (hlen := lenOf pd1 rfl) (hd := d_jdk_42_method_139_code_18) (hst := rfl) (hW := Nat.le_of_eq rfl) (hsz := rfl) (hc1 := Nat.le_of_ble_eq_true rfl) (hl1 := Nat.le_of_ble_eq_true rfl) (hv := Fw.upN) (kk := fun v35 h39 Ts36 Li37 q38 K40 => ?_)
  obtain ⟨⟨t, rfl, gt⟩, rfl, rfl⟩ := q38
  show Walk _ _ _ _ _ _ _ _ _ _ _ _ _ _ 2 5 21 _ [(.ref t), (.ref x27), (.ref x27)]
  refine Walk.iconst (pc' := 22) (0 : Int32) d_jdk_42_method_139_code_21 rfl ?_
  refine Walk.callI (pc' := 25) (a := x27) (Wd := 1) (as := [(.ref t), (.int (0 : Int32))]) (rest := [(.ref x27)]) (wd38 hw) (wd39 hw) (wd40 hw) ((c_strBB hw x27 t _ _ (E31.kq K40) (F34.kq K40 (fun q => q)) (F33.kq K40 (fun q => q)) g30).pay (wd40 hw) (wd6 hw) (by decide) (by decide)) (hlen := lenOf pd2 rfl) (hd := d_jdk_42_method_139_code_22) (hst := rfl) (hW := Nat.le_of_eq rfl) (hsz := rfl) (hc1 := Nat.le_of_ble_eq_true rfl) (hl1 := Nat.le_of_ble_eq_true rfl) (hv := (Fw.up (fun y q => Or.inl (q ▸ g29)))) (kk := fun v41 h45 Ts42 Li43 q44 K46 => ?_)
  obtain ⟨rfl, rfl, rfl⟩ := q44
  show Walk _ _ _ _ _ _ _ _ _ _ _ _ _ _ 2 5 25 _ [(.ref x27)]
  exact Walk.aret d_jdk_42_method_139_code_25 rfl rfl rfl ⟨⟨_, rfl⟩, rfl, rfl⟩ (fun _ q => q) (Nat.le_of_ble_eq_true rfl) (Nat.le_of_ble_eq_true rfl)
set_option maxRecDepth 65536 in
set_option maxHeartbeats 40000000 in
theorem c_emp4 {Z : State} {a0 : Array Value} (hw : ∀ d ∈ tables_1, d.before a0 Z = true) {h : Heap} {Ts : TsT} {Li : LiT} (x b : Addr) (c0 : Value) (E1 : Exa Z h x "java/lang/String") (F1 : Fld Z h x "java/lang/String" "coder" "B" c0) (F2 : Fld Z h x "java/lang/String" "value" "[B" .null) (gz : Z.heap.size ≤ x) (os : List String) (hcw : Jvm.Lit.compactW.before a0 Z = true) (hL : LE Z h Ts Li os) (hh : Jvm.Lit.constHeld Z "java/lang/String" 7) :
    Con Z (⟨"java/lang/String", "<init>", "([CIILjava/lang/Void;)V"⟩ : MethodName) jdk_42_method_149_code 6 none ({ frames := 1, cells := 2, slots := 4, locals := 12 } : Room) [(.ref x), (.ref b), (.int (0 : Int32)), (.int (0 : Int32)), .null] h Ts Li (fun y => y.base = x) (fun v h' Ts' Li' => v = none ∧ LE Z h' Ts' Li' os ∧ ∀ q ∈ Li, q ∈ Li') := by
  refine Con.of (ws := Fw h noW) (Ls := #[.val (.ref x), .val (.ref b), .val (.int (0 : Int32)), .val (.int (0 : Int32)), .val .null, .unset]) (plainFor_of_name pn1) (fun m => by first | rfl | (simp [entryFrame, mkF, argsToLocals, Value.category]; done)) (fun E0 => ?_)
  refine Walk.aloadN (pc' := 1) d_jdk_42_method_149_code_0 rfl rfl ?_
  refine Walk.initO (pc' := 4) (wd15 hw) (wd16 hw) (wd17 hw) d_jdk_42_method_149_code_1 rfl (Wd := 0) (Nat.le_of_eq rfl) (by decide) (by decide) ?_
  refine Walk.iloadN (pc' := 5) d_jdk_42_method_149_code_4 rfl ?_
  refine Walk.ifNo (pc' := 8) d_jdk_42_method_149_code_5 (XT.i0_ne_f rfl) ?_
  refine Walk.aloadN (pc' := 9) d_jdk_42_method_149_code_8 rfl rfl ?_
  obtain ⟨Tl, hTs, hq, hc⟩ := hL
  rcases hc with hc | ⟨y, u, hi, G1, G2⟩
  · skip
    refine Walk.ldcNew (pc' := 11) (wd18 hw) (fun d hd => hw d ((by decide +kernel : ∀ d ∈ Bundle.stringAtoms, d ∈ tables_1) d hd)) hh hcw hTs hc (fun y q => q.elim id fun q => q.elim) (vs := []) (z := 0) ⟨by decide, by decide⟩ (by decide) rfl d_jdk_42_method_149_code_9 (n := 0) (by decide) (by decide) (by decide) (by decide) (fun h47 y49 u50 k51 K48 E52 F53 F54 R55 => ?_)
    show Walk _ _ _ _ _ _ _ _ _ _ _ _ _ _ 2 4 11 _ [(.ref y49), (.ref x)]
    have hyx : y49 ≠ x := Fld.ne F54 (F2.kq K48 (fun q => q)) (fun q => nomatch q)
    refine Walk.ws_mono (ws' := Fw h (fun y => y.base = x)) (fun y q => q.imp id fun q => q.elim) ?_
    refine Walk.getF (pc' := 14) (host := "") (Or.inl (wd24 hw)) Via.refl F54 d_jdk_42_method_149_code_11 ?_
    refine Walk.putF (pc' := 17) (host := "") (Or.inl (wd24 hw)) Via.refl (F2.kq K48 (fun q => q)) (E1.kq K48) (Or.inr ⟨(wd20 hw), rfl, rfl⟩) (wd5 hw) (ty := (.array .byte)) (by decide) rfl rfl d_jdk_42_method_149_code_14 gz (Fw.old rfl) (fun h56 K57 F58 => ?_)
    refine Walk.aloadN (pc' := 18) d_jdk_42_method_149_code_17 rfl rfl ?_
    refine Walk.ldcAgain (pc' := 20) (a := y49) (wd18 hw) (List.mem_cons_self ..) d_jdk_42_method_149_code_18 ?_
    refine Walk.getF (pc' := 23) (host := "") (Or.inl (wd25 hw)) Via.refl (F53.kq K57 (nw hyx)) d_jdk_42_method_149_code_20 ?_
    refine Walk.putF (pc' := 26) (host := "") (Or.inl (wd25 hw)) Via.refl ((F1.kq K48 (fun q => q)).kq K57 (nws (slot_ne (a0 := a0) (Or.inr (wd21 hw)) (Or.inr (wd20 hw)) (by decide) (t := .byte) (by decide) (t' := (.array .byte)) (by decide)))) ((E1.kq K48).kq K57) (Or.inr ⟨(wd21 hw), rfl, rfl⟩) (wd5 hw) (ty := .byte) (by decide) rfl rfl d_jdk_42_method_149_code_23 gz (Fw.old rfl) (fun h59 K60 F61 => ?_)
    exact Walk.ret d_jdk_42_method_149_code_26 rfl ⟨rfl, ⟨_, rfl, fun t m => (List.mem_cons.mp m).elim (fun e => e ▸ List.mem_cons_self ..) (hq t), Or.inr ⟨y49, u50, List.mem_cons_self .., ((F53.kq K57 (nw hyx)).kq K60 (nw hyx)), ((F54.kq K57 (nw hyx)).kq K60 (nw hyx))⟩⟩, fun q m => List.mem_cons_of_mem _ m⟩ (fun _ q => q) (Nat.le_of_ble_eq_true rfl) (Nat.le_of_ble_eq_true rfl)
  · skip
    refine Walk.ldcAgain (pc' := 11) (a := y) (wd18 hw) hi d_jdk_42_method_149_code_9 ?_
    have hyx : y ≠ x := Fld.ne G2 F2 (fun q => nomatch q)
    refine Walk.ws_mono (ws' := Fw h (fun y => y.base = x)) (fun y q => q.imp id fun q => q.elim) ?_
    refine Walk.getF (pc' := 14) (host := "") (Or.inl (wd24 hw)) Via.refl G2 d_jdk_42_method_149_code_11 ?_
    refine Walk.putF (pc' := 17) (host := "") (Or.inl (wd24 hw)) Via.refl F2 E1 (Or.inr ⟨(wd20 hw), rfl, rfl⟩) (wd5 hw) (ty := (.array .byte)) (by decide) rfl rfl d_jdk_42_method_149_code_14 gz (Fw.old rfl) (fun h62 K63 F64 => ?_)
    refine Walk.aloadN (pc' := 18) d_jdk_42_method_149_code_17 rfl rfl ?_
    refine Walk.ldcAgain (pc' := 20) (a := y) (wd18 hw) hi d_jdk_42_method_149_code_18 ?_
    refine Walk.getF (pc' := 23) (host := "") (Or.inl (wd25 hw)) Via.refl (G1.kq K63 (nw hyx)) d_jdk_42_method_149_code_20 ?_
    refine Walk.putF (pc' := 26) (host := "") (Or.inl (wd25 hw)) Via.refl (F1.kq K63 (nws (slot_ne (a0 := a0) (Or.inr (wd21 hw)) (Or.inr (wd20 hw)) (by decide) (t := .byte) (by decide) (t' := (.array .byte)) (by decide)))) (E1.kq K63) (Or.inr ⟨(wd21 hw), rfl, rfl⟩) (wd5 hw) (ty := .byte) (by decide) rfl rfl d_jdk_42_method_149_code_23 gz (Fw.old rfl) (fun h65 K66 F67 => ?_)
    exact Walk.ret d_jdk_42_method_149_code_26 rfl ⟨rfl, ⟨Tl, hTs, hq, Or.inr ⟨y, u, hi, ((G1.kq K63 (nw hyx)).kq K66 (nw hyx)), ((G2.kq K63 (nw hyx)).kq K66 (nw hyx))⟩⟩, fun q m => m⟩ (fun _ q => q) (Nat.le_of_ble_eq_true rfl) (Nat.le_of_ble_eq_true rfl)
set_option maxRecDepth 65536 in
set_option maxHeartbeats 40000000 in
theorem c_emp1 {Z : State} {a0 : Array Value} (hw : ∀ d ∈ tables_1, d.before a0 Z = true) {h : Heap} {Ts : TsT} {Li : LiT} (x b : Addr) (c0 : Value) (f : Nat → Value) (E1 : Exa Z h x "java/lang/String") (F1 : Fld Z h x "java/lang/String" "coder" "B" c0) (F2 : Fld Z h x "java/lang/String" "value" "[B" .null) (A1 : Av Z h b .char 0 f) (gz : Z.heap.size ≤ x) (os : List String) (hcw : Jvm.Lit.compactW.before a0 Z = true) (hL : LE Z h Ts Li os) (hh : Jvm.Lit.constHeld Z "java/lang/String" 7) :
    Con Z (⟨"java/lang/String", "<init>", "([C)V"⟩ : MethodName) jdk_42_method_3_code 2 none ({ frames := 2, cells := 2, slots := 4, locals := 29 } : Room) [(.ref x), (.ref b)] h Ts Li (fun y => y.base = x) (fun v h' Ts' Li' => v = none ∧ LE Z h' Ts' Li' os ∧ ∀ q ∈ Li, q ∈ Li') := by
  refine Con.of (ws := Fw h fun y => y.base = x) (Ls := #[.val (.ref x), .val (.ref b)]) (plainFor_of_name pn1) (fun m => by first | rfl | (simp [entryFrame, mkF, argsToLocals, Value.category]; done)) (fun E0 => ?_)
  refine Walk.aloadN (pc' := 1) d_jdk_42_method_3_code_0 rfl rfl ?_
  refine Walk.aloadN (pc' := 2) d_jdk_42_method_3_code_1 rfl rfl ?_
  refine Walk.iconst (pc' := 3) (0 : Int32) d_jdk_42_method_3_code_2 rfl ?_
  refine Walk.aloadN (pc' := 4) d_jdk_42_method_3_code_3 rfl rfl ?_
  refine Walk.alen (pc' := 5) (z := (0 : Int32)) A1 d_jdk_42_method_3_code_4 rfl ?_
  refine Walk.aconstNull (pc' := 6) d_jdk_42_method_3_code_5 ?_
  refine Walk.callI (pc' := 9) (a := x) (Wd := 0) (as := [(.ref b), (.int (0 : Int32)), (.int (0 : Int32)), .null]) (rest := []) (wd11 hw) (wd12 hw) (wd14 hw) ((c_emp4 hw x b c0 E1 F1 F2 gz os hcw hL hh).pay (wd14 hw) (wd6 hw) (by decide) (by decide)) (hlen := lenOf pd3 rfl) (hd := d_jdk_42_method_3_code_6) (hst := rfl) (hW := Nat.le_of_eq rfl) (hsz := rfl) (hc1 := Nat.le_of_ble_eq_true rfl) (hl1 := Nat.le_of_ble_eq_true rfl) (hv := (Fw.up (fun y q => Fw.old q))) (kk := fun v68 h72 Ts69 Li70 q71 K73 => ?_)
  obtain ⟨rfl, e1, e2⟩ := q71
  show Walk _ _ _ _ _ _ _ _ _ _ _ _ _ _ 2 4 9 _ []
  exact Walk.ret d_jdk_42_method_3_code_9 rfl ⟨rfl, e1, e2⟩ (fun _ q => q) (Nat.le_of_ble_eq_true rfl) (Nat.le_of_ble_eq_true rfl)
set_option maxRecDepth 65536 in
set_option maxHeartbeats 40000000 in
theorem c_draw {Z : State} {a0 : Array Value} (hw : ∀ d ∈ tables_1, d.before a0 Z = true) {h : Heap} {Ts : TsT} {Li : LiT} (p : Int32) (z : Int32) (hz : ¬ z = 0) (O2 : Sta Z Z.heap "java/lang/String" "COMPACT_STRINGS" "Z" (.int z)) (os : List String) (hcw : Jvm.Lit.compactW.before a0 Z = true) (hL : LE Z h Ts Li os) (hh : Jvm.Lit.constHeld Z "java/lang/String" 7) :
    Con Z (⟨"com/example/rickyard/rickyard/HarvestStateInProgressPinLaw", "draw", "(I)Ljava/lang/String;"⟩ : MethodName) method_2_code 1 (some (.object "java/lang/String")) ({ frames := 3, cells := 4, slots := 8, locals := 43 } : Room) [(.int p)] h Ts Li (noW) (fun v h' Ts' Li' => (∃ w, v = some w ∧ w.isRef = true) ∧ LE Z h' Ts' Li' os ∧ ∀ q ∈ Li, q ∈ Li') := by
  refine Con.of (ws := Fw h noW) (Ls := #[.val (.int p)]) (plainFor_of_name pn2) (fun m => by first | rfl | (simp [entryFrame, mkF, argsToLocals, Value.category]; done)) (fun E0 => ?_)
  refine Walk.iloadN (pc' := 1) d_method_2_code_0 rfl ?_
  refine Walk.iconst (pc' := 2) (1 : Int32) d_method_2_code_1 rfl ?_
  refine Walk.iand (pc' := 3) d_method_2_code_2 ?_
  by_cases h0 : (p &&& (1 : Int32)) = 0
  · skip
    refine Walk.ifNo (pc' := 6) d_method_2_code_3 (XT.i0_ne_f h0) ?_
    refine Walk.aconstNull (pc' := 7) d_method_2_code_6 ?_
    exact Walk.aret d_method_2_code_7 rfl rfl rfl ⟨⟨_, rfl, rfl⟩, hL, fun q m => m⟩ (fun _ q => q) (Nat.le_of_ble_eq_true rfl) (Nat.le_of_ble_eq_true rfl)
  · skip
    refine Walk.ifYes (pc' := 8) d_method_2_code_3 (XT.i0_ne_t h0) ?_
    refine Walk.iloadN (pc' := 9) d_method_2_code_8 rfl ?_
    refine Walk.iconst (pc' := 10) (2 : Int32) d_method_2_code_9 rfl ?_
    refine Walk.iand (pc' := 11) d_method_2_code_10 ?_
    by_cases h1 : (p &&& (2 : Int32)) = 0
    · skip
      refine Walk.ifYes (pc' := 25) d_method_2_code_11 (XT.i0_eq_t h1) ?_
      refine Walk.iloadN (pc' := 26) d_method_2_code_25 rfl ?_
      refine Walk.iconst (pc' := 27) (2 : Int32) d_method_2_code_26 rfl ?_
      refine Walk.iushr (pc' := 28) d_method_2_code_27 ?_
      refine Walk.sipush (pc' := 31) (255 : Int32) d_method_2_code_28 rfl ?_
      refine Walk.iand (pc' := 32) d_method_2_code_31 ?_
      refine Walk.i2c (pc' := 33) d_method_2_code_32 ?_
      refine Walk.callS (pc' := 36) (Wd := 0) (as := [(.int (Int32.toUInt32 ((XT.ushr p (2 : Int32)) &&& (255 : Int32))).toUInt16.toUInt32.toInt32)]) (rest := []) (wd26 hw) (wd27 hw) (wd6 hw) (wd28 hw) ((c_valC hw _ (own_c255 _) z hz O2).pay (wd28 hw) (wd6 hw) (by decide) (by decide)) (hlen := lenOf pd4 rfl) (hd := d_method_2_code_33) (hst := rfl) (hW := Nat.le_of_eq rfl) (hsz := rfl) (hc1 := Nat.le_of_ble_eq_true rfl) (hl1 := Nat.le_of_ble_eq_true rfl) (hv := Fw.upN) (kk := fun v74 h78 Ts75 Li76 q77 K79 => ?_)
      obtain ⟨⟨x, rfl⟩, rfl, rfl⟩ := q77
      show Walk _ _ _ _ _ _ _ _ _ _ _ _ _ _ 2 5 36 _ [(.ref x)]
      exact Walk.aret d_method_2_code_36 rfl rfl rfl ⟨⟨_, rfl, rfl⟩, hL.kq K79, fun q m => m⟩ (fun _ q => q) (Nat.le_of_ble_eq_true rfl) (Nat.le_of_ble_eq_true rfl)
    · skip
      refine Walk.ifNo (pc' := 14) d_method_2_code_11 (XT.i0_eq_f h1) ?_
      refine Walk.newO (pc' := 17) (wd4 hw) (wd5 hw) (wd6 hw) d_method_2_code_14 (by decide) (by decide) (fun h80 x82 g83 g84 g85 K81 E86 D87 => ?_)
      have F88 : Fld Z h80 x82 "java/lang/String" "value" "[B" .null := D87 (Or.inr (wd20 hw)) (ty := (.array .byte)) (by decide)
      have F89 : Fld Z h80 x82 "java/lang/String" "coder" "B" (.int (0 : Int32)) := D87 (Or.inr (wd21 hw)) (ty := .byte) (by decide)
      refine Walk.dup (pc' := 18) d_method_2_code_17 rfl ?_
      refine Walk.iconst (pc' := 19) (0 : Int32) d_method_2_code_18 rfl ?_
      refine Walk.newA (pc' := 21) (aty := .char) (cap := 0) (wd7 hw) d_method_2_code_19 (by decide) (by decide) (by decide) (by decide) (by decide) (fun h90 x92 g93 g94 g95 K91 A96 R97 => ?_)
      refine Walk.callI (pc' := 24) (a := x82) (Wd := 1) (as := [(.ref x92)]) (rest := [(.ref x82)]) (wd8 hw) (wd9 hw) (wd10 hw) ((c_emp1 hw x82 x92 _ _ (E86.kq K91) (F89.kq K91 (fun q => q)) (F88.kq K91 (fun q => q)) A96 g85 os hcw ((hL.kq K81).kq K91) hh).pay (Wd := 1) (wd10 hw) (wd6 hw) (by decide) (by decide)) (hlen := lenOf pd5 rfl) (hd := d_method_2_code_21) (hst := rfl) (hW := Nat.le_of_eq rfl) (hsz := rfl) (hc1 := Nat.le_of_ble_eq_true rfl) (hl1 := Nat.le_of_ble_eq_true rfl) (hv := (Fw.up (fun y q => Or.inl (q ▸ g84)))) (kk := fun v98 h102 Ts99 Li100 q101 K103 => ?_)
      obtain ⟨rfl, e1, e2⟩ := q101
      show Walk _ _ _ _ _ _ _ _ _ _ _ _ _ _ 4 8 24 _ [(.ref x82)]
      exact Walk.aret d_method_2_code_24 rfl rfl rfl ⟨⟨_, rfl, rfl⟩, e1, e2⟩ (fun _ q => q) (Nat.le_of_ble_eq_true rfl) (Nat.le_of_ble_eq_true rfl)
set_option maxRecDepth 65536 in
set_option maxHeartbeats 40000000 in
theorem c_rec {Z : State} {a0 : Array Value} (hw : ∀ d ∈ tables_1, d.before a0 Z = true) {h : Heap} {Ts : TsT} {Li : LiT} (x : Addr) :
    Con Z (⟨"java/lang/Record", "<init>", "()V"⟩ : MethodName) jdk_30_method_1_code 1 none ({ frames := 1, cells := 0, slots := 0, locals := 12 } : Room) [(.ref x)] h Ts Li (noW) (Pu (none) h Ts Li) := by
  refine Con.of (ws := Fw h noW) (Ls := #[.val (.ref x)]) (plainFor_of_name pn3) (fun m => by first | rfl | (simp [entryFrame, mkF, argsToLocals, Value.category]; done)) (fun E0 => ?_)
  refine Walk.aloadN (pc' := 1) d_jdk_30_method_1_code_0 rfl rfl ?_
  refine Walk.initO (pc' := 4) (wd53 hw) (wd16 hw) (wd17 hw) d_jdk_30_method_1_code_1 rfl (Wd := 0) (Nat.le_of_eq rfl) (by decide) (by decide) ?_
  exact Walk.ret d_jdk_30_method_1_code_4 rfl ⟨rfl, rfl, rfl, rfl⟩ (fun _ q => q) (Nat.le_of_ble_eq_true rfl) (Nat.le_of_ble_eq_true rfl)
set_option maxRecDepth 65536 in
set_option maxHeartbeats 40000000 in
theorem c_hs {Z : State} {a0 : Array Value} (hw : ∀ d ∈ tables_1, d.before a0 Z = true) {h : Heap} {Ts : TsT} {Li : LiT} (x : Addr) (v0 : Value) (r0 : v0.isRef = true) (v1 : Value) (r1 : v1.isRef = true) (v2 : Value) (r2 : v2.isRef = true) (v3 : Value) (r3 : v3.isRef = true) (v4 : Value) (r4 : v4.isRef = true) (v5 : Value) (r5 : v5.isRef = true) (v6 : Value) (r6 : v6.isRef = true) (E1 : Exa Z h x "com/example/rickyard/rickyard/HarvestState") (F0 : Fld Z h x "com/example/rickyard/rickyard/HarvestState" "baseUrl" "Ljava/lang/String;" .null) (F1 : Fld Z h x "com/example/rickyard/rickyard/HarvestState" "prefix" "Ljava/lang/String;" .null) (F2 : Fld Z h x "com/example/rickyard/rickyard/HarvestState" "set" "Ljava/lang/String;" .null) (F3 : Fld Z h x "com/example/rickyard/rickyard/HarvestState" "harvested" "Ljava/lang/String;" .null) (F4 : Fld Z h x "com/example/rickyard/rickyard/HarvestState" "started" "Ljava/lang/String;" .null) (F5 : Fld Z h x "com/example/rickyard/rickyard/HarvestState" "from" "Ljava/lang/String;" .null) (F6 : Fld Z h x "com/example/rickyard/rickyard/HarvestState" "token" "Ljava/lang/String;" .null) (gz : Z.heap.size ≤ x) :
    Con Z (⟨"com/example/rickyard/rickyard/HarvestState", "<init>", "(Ljava/lang/String;Ljava/lang/String;Ljava/lang/String;Ljava/lang/String;Ljava/lang/String;Ljava/lang/String;Ljava/lang/String;)V"⟩ : MethodName) prog_1_method_1_code 8 none ({ frames := 2, cells := 0, slots := 0, locals := 24 } : Room) [(.ref x), v0, v1, v2, v3, v4, v5, v6] h Ts Li (fun y => y.base = x) (fun v h' Ts' Li' => (v = none ∧ Ts' = Ts ∧ Li' = Li) ∧ Exa Z h' x "com/example/rickyard/rickyard/HarvestState" ∧ Fld Z h' x "com/example/rickyard/rickyard/HarvestState" "baseUrl" "Ljava/lang/String;" v0 ∧ Fld Z h' x "com/example/rickyard/rickyard/HarvestState" "prefix" "Ljava/lang/String;" v1 ∧ Fld Z h' x "com/example/rickyard/rickyard/HarvestState" "set" "Ljava/lang/String;" v2 ∧ Fld Z h' x "com/example/rickyard/rickyard/HarvestState" "harvested" "Ljava/lang/String;" v3 ∧ Fld Z h' x "com/example/rickyard/rickyard/HarvestState" "started" "Ljava/lang/String;" v4 ∧ Fld Z h' x "com/example/rickyard/rickyard/HarvestState" "from" "Ljava/lang/String;" v5 ∧ Fld Z h' x "com/example/rickyard/rickyard/HarvestState" "token" "Ljava/lang/String;" v6) := by
  refine Con.of (ws := Fw h fun y => y.base = x) (Ls := #[.val (.ref x), .val v0, .val v1, .val v2, .val v3, .val v4, .val v5, .val v6]) (plainFor_of_name pn4) (fun m => by simp [entryFrame, mkF, argsToLocals, cat_i, cat_j, cat_r, cat_n, XT.cat1 r0, XT.cat1 r1, XT.cat1 r2, XT.cat1 r3, XT.cat1 r4, XT.cat1 r5, XT.cat1 r6]) (fun E0 => ?_)
  refine Walk.aloadN (pc' := 1) d_prog_1_method_1_code_0 rfl rfl ?_
  refine Walk.callI (pc' := 4) (a := x) (Wd := 0) (as := []) (rest := []) (wd48 hw) (wd49 hw) (wd52 hw) ((c_rec hw x).pay (wd52 hw) (wd51 hw) (by decide) (by decide)) (hlen := lenOf pd6 rfl) (hd := d_prog_1_method_1_code_1) (hst := rfl) (hW := Nat.le_of_eq rfl) (hsz := rfl) (hc1 := Nat.le_of_ble_eq_true rfl) (hl1 := Nat.le_of_ble_eq_true rfl) (hv := Fw.upN) (kk := fun v104 h108 Ts105 Li106 q107 K109 => ?_)
  obtain ⟨rfl, rfl, rfl, rfl⟩ := q107
  show Walk _ _ _ _ _ _ _ _ _ _ _ _ _ _ 0 0 4 _ []
  refine Walk.aloadN (pc' := 5) d_prog_1_method_1_code_4 rfl rfl ?_
  refine Walk.aloadN (pc' := 6) d_prog_1_method_1_code_5 rfl r0 ?_
  refine Walk.putF (pc' := 9) (host := "") (Or.inl (wd54 hw)) Via.refl F0 E1 (Or.inr ⟨(wd55 hw), rfl, rfl⟩) (wd42 hw) (ty := (.object "java/lang/String")) (by decide) (refNar r0 rfl) (refFit r0 rfl) d_prog_1_method_1_code_6 gz (Fw.old rfl) (fun h110 K111 F112 => ?_)
  refine Walk.aloadN (pc' := 10) d_prog_1_method_1_code_9 rfl rfl ?_
  refine Walk.aloadN (pc' := 11) d_prog_1_method_1_code_10 rfl r1 ?_
  refine Walk.putF (pc' := 14) (host := "") (Or.inl (wd56 hw)) Via.refl (F1.kq K111 (nws (slot_ne (a0 := a0) (Or.inr (wd57 hw)) (Or.inr (wd55 hw)) (by decide) (t := (.object "java/lang/String")) (by decide) (t' := (.object "java/lang/String")) (by decide)))) (E1.kq K111) (Or.inr ⟨(wd57 hw), rfl, rfl⟩) (wd42 hw) (ty := (.object "java/lang/String")) (by decide) (refNar r1 rfl) (refFit r1 rfl) d_prog_1_method_1_code_11 gz (Fw.old rfl) (fun h113 K114 F115 => ?_)
  refine Walk.aloadN (pc' := 15) d_prog_1_method_1_code_14 rfl rfl ?_
  refine Walk.aloadN (pc' := 16) d_prog_1_method_1_code_15 rfl r2 ?_
  refine Walk.putF (pc' := 19) (host := "") (Or.inl (wd58 hw)) Via.refl ((F2.kq K111 (nws (slot_ne (a0 := a0) (Or.inr (wd59 hw)) (Or.inr (wd55 hw)) (by decide) (t := (.object "java/lang/String")) (by decide) (t' := (.object "java/lang/String")) (by decide)))).kq K114 (nws (slot_ne (a0 := a0) (Or.inr (wd59 hw)) (Or.inr (wd57 hw)) (by decide) (t := (.object "java/lang/String")) (by decide) (t' := (.object "java/lang/String")) (by decide)))) ((E1.kq K111).kq K114) (Or.inr ⟨(wd59 hw), rfl, rfl⟩) (wd42 hw) (ty := (.object "java/lang/String")) (by decide) (refNar r2 rfl) (refFit r2 rfl) d_prog_1_method_1_code_16 gz (Fw.old rfl) (fun h116 K117 F118 => ?_)
  refine Walk.aloadN (pc' := 20) d_prog_1_method_1_code_19 rfl rfl ?_
  refine Walk.aload (pc' := 22) d_prog_1_method_1_code_20 rfl r3 ?_
  refine Walk.putF (pc' := 25) (host := "") (Or.inl (wd60 hw)) Via.refl (((F3.kq K111 (nws (slot_ne (a0 := a0) (Or.inr (wd61 hw)) (Or.inr (wd55 hw)) (by decide) (t := (.object "java/lang/String")) (by decide) (t' := (.object "java/lang/String")) (by decide)))).kq K114 (nws (slot_ne (a0 := a0) (Or.inr (wd61 hw)) (Or.inr (wd57 hw)) (by decide) (t := (.object "java/lang/String")) (by decide) (t' := (.object "java/lang/String")) (by decide)))).kq K117 (nws (slot_ne (a0 := a0) (Or.inr (wd61 hw)) (Or.inr (wd59 hw)) (by decide) (t := (.object "java/lang/String")) (by decide) (t' := (.object "java/lang/String")) (by decide)))) (((E1.kq K111).kq K114).kq K117) (Or.inr ⟨(wd61 hw), rfl, rfl⟩) (wd42 hw) (ty := (.object "java/lang/String")) (by decide) (refNar r3 rfl) (refFit r3 rfl) d_prog_1_method_1_code_22 gz (Fw.old rfl) (fun h119 K120 F121 => ?_)
  refine Walk.aloadN (pc' := 26) d_prog_1_method_1_code_25 rfl rfl ?_
  refine Walk.aload (pc' := 28) d_prog_1_method_1_code_26 rfl r4 ?_
  refine Walk.putF (pc' := 31) (host := "") (Or.inl (wd62 hw)) Via.refl ((((F4.kq K111 (nws (slot_ne (a0 := a0) (Or.inr (wd63 hw)) (Or.inr (wd55 hw)) (by decide) (t := (.object "java/lang/String")) (by decide) (t' := (.object "java/lang/String")) (by decide)))).kq K114 (nws (slot_ne (a0 := a0) (Or.inr (wd63 hw)) (Or.inr (wd57 hw)) (by decide) (t := (.object "java/lang/String")) (by decide) (t' := (.object "java/lang/String")) (by decide)))).kq K117 (nws (slot_ne (a0 := a0) (Or.inr (wd63 hw)) (Or.inr (wd59 hw)) (by decide) (t := (.object "java/lang/String")) (by decide) (t' := (.object "java/lang/String")) (by decide)))).kq K120 (nws (slot_ne (a0 := a0) (Or.inr (wd63 hw)) (Or.inr (wd61 hw)) (by decide) (t := (.object "java/lang/String")) (by decide) (t' := (.object "java/lang/String")) (by decide)))) ((((E1.kq K111).kq K114).kq K117).kq K120) (Or.inr ⟨(wd63 hw), rfl, rfl⟩) (wd42 hw) (ty := (.object "java/lang/String")) (by decide) (refNar r4 rfl) (refFit r4 rfl) d_prog_1_method_1_code_28 gz (Fw.old rfl) (fun h122 K123 F124 => ?_)
  refine Walk.aloadN (pc' := 32) d_prog_1_method_1_code_31 rfl rfl ?_
  refine Walk.aload (pc' := 34) d_prog_1_method_1_code_32 rfl r5 ?_
  refine Walk.putF (pc' := 37) (host := "") (Or.inl (wd64 hw)) Via.refl (((((F5.kq K111 (nws (slot_ne (a0 := a0) (Or.inr (wd65 hw)) (Or.inr (wd55 hw)) (by decide) (t := (.object "java/lang/String")) (by decide) (t' := (.object "java/lang/String")) (by decide)))).kq K114 (nws (slot_ne (a0 := a0) (Or.inr (wd65 hw)) (Or.inr (wd57 hw)) (by decide) (t := (.object "java/lang/String")) (by decide) (t' := (.object "java/lang/String")) (by decide)))).kq K117 (nws (slot_ne (a0 := a0) (Or.inr (wd65 hw)) (Or.inr (wd59 hw)) (by decide) (t := (.object "java/lang/String")) (by decide) (t' := (.object "java/lang/String")) (by decide)))).kq K120 (nws (slot_ne (a0 := a0) (Or.inr (wd65 hw)) (Or.inr (wd61 hw)) (by decide) (t := (.object "java/lang/String")) (by decide) (t' := (.object "java/lang/String")) (by decide)))).kq K123 (nws (slot_ne (a0 := a0) (Or.inr (wd65 hw)) (Or.inr (wd63 hw)) (by decide) (t := (.object "java/lang/String")) (by decide) (t' := (.object "java/lang/String")) (by decide)))) (((((E1.kq K111).kq K114).kq K117).kq K120).kq K123) (Or.inr ⟨(wd65 hw), rfl, rfl⟩) (wd42 hw) (ty := (.object "java/lang/String")) (by decide) (refNar r5 rfl) (refFit r5 rfl) d_prog_1_method_1_code_34 gz (Fw.old rfl) (fun h125 K126 F127 => ?_)
  refine Walk.aloadN (pc' := 38) d_prog_1_method_1_code_37 rfl rfl ?_
  refine Walk.aload (pc' := 40) d_prog_1_method_1_code_38 rfl r6 ?_
  refine Walk.putF (pc' := 43) (host := "") (Or.inl (wd66 hw)) Via.refl ((((((F6.kq K111 (nws (slot_ne (a0 := a0) (Or.inr (wd67 hw)) (Or.inr (wd55 hw)) (by decide) (t := (.object "java/lang/String")) (by decide) (t' := (.object "java/lang/String")) (by decide)))).kq K114 (nws (slot_ne (a0 := a0) (Or.inr (wd67 hw)) (Or.inr (wd57 hw)) (by decide) (t := (.object "java/lang/String")) (by decide) (t' := (.object "java/lang/String")) (by decide)))).kq K117 (nws (slot_ne (a0 := a0) (Or.inr (wd67 hw)) (Or.inr (wd59 hw)) (by decide) (t := (.object "java/lang/String")) (by decide) (t' := (.object "java/lang/String")) (by decide)))).kq K120 (nws (slot_ne (a0 := a0) (Or.inr (wd67 hw)) (Or.inr (wd61 hw)) (by decide) (t := (.object "java/lang/String")) (by decide) (t' := (.object "java/lang/String")) (by decide)))).kq K123 (nws (slot_ne (a0 := a0) (Or.inr (wd67 hw)) (Or.inr (wd63 hw)) (by decide) (t := (.object "java/lang/String")) (by decide) (t' := (.object "java/lang/String")) (by decide)))).kq K126 (nws (slot_ne (a0 := a0) (Or.inr (wd67 hw)) (Or.inr (wd65 hw)) (by decide) (t := (.object "java/lang/String")) (by decide) (t' := (.object "java/lang/String")) (by decide)))) ((((((E1.kq K111).kq K114).kq K117).kq K120).kq K123).kq K126) (Or.inr ⟨(wd67 hw), rfl, rfl⟩) (wd42 hw) (ty := (.object "java/lang/String")) (by decide) (refNar r6 rfl) (refFit r6 rfl) d_prog_1_method_1_code_40 gz (Fw.old rfl) (fun h128 K129 F130 => ?_)
  exact Walk.ret d_prog_1_method_1_code_43 rfl ⟨⟨rfl, rfl, rfl⟩, (((((((E1.kq K111).kq K114).kq K117).kq K120).kq K123).kq K126).kq K129), ((((((F112.kq K114 (nws (slot_ne (a0 := a0) (Or.inr (wd55 hw)) (Or.inr (wd57 hw)) (by decide) (t := (.object "java/lang/String")) (by decide) (t' := (.object "java/lang/String")) (by decide)))).kq K117 (nws (slot_ne (a0 := a0) (Or.inr (wd55 hw)) (Or.inr (wd59 hw)) (by decide) (t := (.object "java/lang/String")) (by decide) (t' := (.object "java/lang/String")) (by decide)))).kq K120 (nws (slot_ne (a0 := a0) (Or.inr (wd55 hw)) (Or.inr (wd61 hw)) (by decide) (t := (.object "java/lang/String")) (by decide) (t' := (.object "java/lang/String")) (by decide)))).kq K123 (nws (slot_ne (a0 := a0) (Or.inr (wd55 hw)) (Or.inr (wd63 hw)) (by decide) (t := (.object "java/lang/String")) (by decide) (t' := (.object "java/lang/String")) (by decide)))).kq K126 (nws (slot_ne (a0 := a0) (Or.inr (wd55 hw)) (Or.inr (wd65 hw)) (by decide) (t := (.object "java/lang/String")) (by decide) (t' := (.object "java/lang/String")) (by decide)))).kq K129 (nws (slot_ne (a0 := a0) (Or.inr (wd55 hw)) (Or.inr (wd67 hw)) (by decide) (t := (.object "java/lang/String")) (by decide) (t' := (.object "java/lang/String")) (by decide)))), (((((F115.kq K117 (nws (slot_ne (a0 := a0) (Or.inr (wd57 hw)) (Or.inr (wd59 hw)) (by decide) (t := (.object "java/lang/String")) (by decide) (t' := (.object "java/lang/String")) (by decide)))).kq K120 (nws (slot_ne (a0 := a0) (Or.inr (wd57 hw)) (Or.inr (wd61 hw)) (by decide) (t := (.object "java/lang/String")) (by decide) (t' := (.object "java/lang/String")) (by decide)))).kq K123 (nws (slot_ne (a0 := a0) (Or.inr (wd57 hw)) (Or.inr (wd63 hw)) (by decide) (t := (.object "java/lang/String")) (by decide) (t' := (.object "java/lang/String")) (by decide)))).kq K126 (nws (slot_ne (a0 := a0) (Or.inr (wd57 hw)) (Or.inr (wd65 hw)) (by decide) (t := (.object "java/lang/String")) (by decide) (t' := (.object "java/lang/String")) (by decide)))).kq K129 (nws (slot_ne (a0 := a0) (Or.inr (wd57 hw)) (Or.inr (wd67 hw)) (by decide) (t := (.object "java/lang/String")) (by decide) (t' := (.object "java/lang/String")) (by decide)))), ((((F118.kq K120 (nws (slot_ne (a0 := a0) (Or.inr (wd59 hw)) (Or.inr (wd61 hw)) (by decide) (t := (.object "java/lang/String")) (by decide) (t' := (.object "java/lang/String")) (by decide)))).kq K123 (nws (slot_ne (a0 := a0) (Or.inr (wd59 hw)) (Or.inr (wd63 hw)) (by decide) (t := (.object "java/lang/String")) (by decide) (t' := (.object "java/lang/String")) (by decide)))).kq K126 (nws (slot_ne (a0 := a0) (Or.inr (wd59 hw)) (Or.inr (wd65 hw)) (by decide) (t := (.object "java/lang/String")) (by decide) (t' := (.object "java/lang/String")) (by decide)))).kq K129 (nws (slot_ne (a0 := a0) (Or.inr (wd59 hw)) (Or.inr (wd67 hw)) (by decide) (t := (.object "java/lang/String")) (by decide) (t' := (.object "java/lang/String")) (by decide)))), (((F121.kq K123 (nws (slot_ne (a0 := a0) (Or.inr (wd61 hw)) (Or.inr (wd63 hw)) (by decide) (t := (.object "java/lang/String")) (by decide) (t' := (.object "java/lang/String")) (by decide)))).kq K126 (nws (slot_ne (a0 := a0) (Or.inr (wd61 hw)) (Or.inr (wd65 hw)) (by decide) (t := (.object "java/lang/String")) (by decide) (t' := (.object "java/lang/String")) (by decide)))).kq K129 (nws (slot_ne (a0 := a0) (Or.inr (wd61 hw)) (Or.inr (wd67 hw)) (by decide) (t := (.object "java/lang/String")) (by decide) (t' := (.object "java/lang/String")) (by decide)))), ((F124.kq K126 (nws (slot_ne (a0 := a0) (Or.inr (wd63 hw)) (Or.inr (wd65 hw)) (by decide) (t := (.object "java/lang/String")) (by decide) (t' := (.object "java/lang/String")) (by decide)))).kq K129 (nws (slot_ne (a0 := a0) (Or.inr (wd63 hw)) (Or.inr (wd67 hw)) (by decide) (t := (.object "java/lang/String")) (by decide) (t' := (.object "java/lang/String")) (by decide)))), (F127.kq K129 (nws (slot_ne (a0 := a0) (Or.inr (wd65 hw)) (Or.inr (wd67 hw)) (by decide) (t := (.object "java/lang/String")) (by decide) (t' := (.object "java/lang/String")) (by decide)))), F130⟩ (fun _ q => q) (Nat.le_of_ble_eq_true rfl) (Nat.le_of_ble_eq_true rfl)
set_option maxRecDepth 65536 in
set_option maxHeartbeats 40000000 in
theorem c_inp0 {Z : State} {a0 : Array Value} (hw : ∀ d ∈ tables_1, d.before a0 Z = true) {h : Heap} {Ts : TsT} {Li : LiT} (x : Addr)  (F6 : Fld Z h x "com/example/rickyard/rickyard/HarvestState" "token" "Ljava/lang/String;" .null) :
    Con Z (⟨"com/example/rickyard/rickyard/HarvestState", "inProgress", "()Z"⟩ : MethodName) prog_1_method_3_code 1 (some .boolean) ({ frames := 0, cells := 0, slots := 0, locals := 0 } : Room) [(.ref x)] h Ts Li (noW) (Pu (some (.int 0)) h Ts Li) := by
  refine Con.of (ws := Fw h noW) (Ls := #[.val (.ref x)]) (plainFor_of_name pn4) (fun m => by first | rfl | (simp [entryFrame, mkF, argsToLocals, Value.category]; done)) (fun E0 => ?_)
  refine Walk.aloadN (pc' := 1) d_prog_1_method_3_code_0 rfl rfl ?_
  refine Walk.getF (pc' := 4) (host := "") (Or.inl (wd66 hw)) Via.refl F6 d_prog_1_method_3_code_1 ?_
  refine Walk.nullYes (pc' := 11) d_prog_1_method_3_code_4 rfl ?_
  refine Walk.iconst (pc' := 12) (0 : Int32) d_prog_1_method_3_code_11 rfl ?_
  exact Walk.nret d_prog_1_method_3_code_12 rfl (by simp) ⟨rfl, rfl, rfl, rfl⟩ (fun _ q => q) (Nat.le_of_ble_eq_true rfl) (Nat.le_of_ble_eq_true rfl)
set_option maxRecDepth 65536 in
set_option maxHeartbeats 40000000 in
theorem c_inp1 {Z : State} {a0 : Array Value} (hw : ∀ d ∈ tables_1, d.before a0 Z = true) {h : Heap} {Ts : TsT} {Li : LiT} (x : Addr) (k : Addr) (F6 : Fld Z h x "com/example/rickyard/rickyard/HarvestState" "token" "Ljava/lang/String;" (.ref k)) :
    Con Z (⟨"com/example/rickyard/rickyard/HarvestState", "inProgress", "()Z"⟩ : MethodName) prog_1_method_3_code 1 (some .boolean) ({ frames := 0, cells := 0, slots := 0, locals := 0 } : Room) [(.ref x)] h Ts Li (noW) (Pu (some (.int 1)) h Ts Li) := by
  refine Con.of (ws := Fw h noW) (Ls := #[.val (.ref x)]) (plainFor_of_name pn4) (fun m => by first | rfl | (simp [entryFrame, mkF, argsToLocals, Value.category]; done)) (fun E0 => ?_)
  refine Walk.aloadN (pc' := 1) d_prog_1_method_3_code_0 rfl rfl ?_
  refine Walk.getF (pc' := 4) (host := "") (Or.inl (wd66 hw)) Via.refl F6 d_prog_1_method_3_code_1 ?_
  refine Walk.nullNo (pc' := 7) d_prog_1_method_3_code_4 rfl (fun q => nomatch q) ?_
  refine Walk.iconst (pc' := 8) (1 : Int32) d_prog_1_method_3_code_7 rfl ?_
  refine Walk.goto (pc' := 12) d_prog_1_method_3_code_8 ?_
  exact Walk.nret d_prog_1_method_3_code_12 rfl (by simp) ⟨rfl, rfl, rfl, rfl⟩ (fun _ q => q) (Nat.le_of_ble_eq_true rfl) (Nat.le_of_ble_eq_true rfl)
set_option maxRecDepth 65536 in
set_option maxHeartbeats 40000000 in
theorem c_stored {Z : State} {a0 : Array Value} (hw : ∀ d ∈ tables_1, d.before a0 Z = true) {h : Heap} {Ts : TsT} {Li : LiT} (x : Addr) (v0 : Value) (r0 : v0.isRef = true) (v1 : Value) (r1 : v1.isRef = true) (v2 : Value) (r2 : v2.isRef = true) (v3 : Value) (r3 : v3.isRef = true) (v4 : Value) (r4 : v4.isRef = true) (v5 : Value) (r5 : v5.isRef = true) (v6 : Value) (r6 : v6.isRef = true) (E1 : Exa Z h x "com/example/rickyard/rickyard/HarvestState") (F0 : Fld Z h x "com/example/rickyard/rickyard/HarvestState" "baseUrl" "Ljava/lang/String;" v0) (F1 : Fld Z h x "com/example/rickyard/rickyard/HarvestState" "prefix" "Ljava/lang/String;" v1) (F2 : Fld Z h x "com/example/rickyard/rickyard/HarvestState" "set" "Ljava/lang/String;" v2) (F3 : Fld Z h x "com/example/rickyard/rickyard/HarvestState" "harvested" "Ljava/lang/String;" v3) (F4 : Fld Z h x "com/example/rickyard/rickyard/HarvestState" "started" "Ljava/lang/String;" v4) (F5 : Fld Z h x "com/example/rickyard/rickyard/HarvestState" "from" "Ljava/lang/String;" v5) (F6 : Fld Z h x "com/example/rickyard/rickyard/HarvestState" "token" "Ljava/lang/String;" v6) (d : Value) (rd : d.isRef = true) (nx : Value) (rn : nx.isRef = true) :
    Con Z (⟨"com/example/rickyard/rickyard/HarvestState", "stored", "(Ljava/lang/String;Ljava/lang/String;)Lcom/example/rickyard/rickyard/HarvestState;"⟩ : MethodName) prog_1_method_5_code 4 (some (.object "com/example/rickyard/rickyard/HarvestState")) ({ frames := 3, cells := 1, slots := 7, locals := 44 } : Room) [(.ref x), d, nx] h Ts Li (noW) (fun v h' Ts' Li' => (∃ y, v = some (.ref y) ∧ Exa Z h' y "com/example/rickyard/rickyard/HarvestState" ∧ Fld Z h' y "com/example/rickyard/rickyard/HarvestState" "token" "Ljava/lang/String;" nx) ∧ Ts' = Ts ∧ Li' = Li) := by
  refine Con.of (ws := Fw h noW) (Ls := #[.val (.ref x), .val d, .val nx, .unset]) (plainFor_of_name pn4) (fun m => by simp [entryFrame, mkF, argsToLocals, cat_i, cat_j, cat_r, cat_n, XT.cat1 rd, XT.cat1 rn]) (fun E0 => ?_)
  refine Walk.aloadN (pc' := 1) d_prog_1_method_5_code_0 rfl rfl ?_
  refine Walk.getF (pc' := 4) (host := "") (Or.inl (wd62 hw)) Via.refl F4 d_prog_1_method_5_code_1 ?_
  by_cases hs : v4 = .null
  · skip
    refine Walk.nullYes (pc' := 14) d_prog_1_method_5_code_4 hs ?_
    refine Walk.aloadN (pc' := 15) d_prog_1_method_5_code_14 rfl rd ?_
    refine Walk.astoreN (pc' := 16) (Ls' := #[.val (.ref x), .val d, .val nx, .val d]) d_prog_1_method_5_code_15 rd (stV rfl (Or.inl rfl) (XT.cat1 rd) rfl) ?_
    refine Walk.aloadN (pc' := 17) d_prog_1_method_5_code_16 rfl rn ?_
    by_cases hn : nx = .null
    · skip
      refine Walk.nullYes (pc' := 52) d_prog_1_method_5_code_17 hn ?_
      refine Walk.newO (pc' := 55) (wd79 hw) (wd42 hw) (wd43 hw) d_prog_1_method_5_code_52 (by decide) (by decide) (fun h131 x133 g134 g135 g136 K132 E137 D138 => ?_)
      have F139 : Fld Z h131 x133 "com/example/rickyard/rickyard/HarvestState" "baseUrl" "Ljava/lang/String;" .null := D138 (Or.inr (wd55 hw)) (ty := (.object "java/lang/String")) (by decide)
      have F140 : Fld Z h131 x133 "com/example/rickyard/rickyard/HarvestState" "prefix" "Ljava/lang/String;" .null := D138 (Or.inr (wd57 hw)) (ty := (.object "java/lang/String")) (by decide)
      have F141 : Fld Z h131 x133 "com/example/rickyard/rickyard/HarvestState" "set" "Ljava/lang/String;" .null := D138 (Or.inr (wd59 hw)) (ty := (.object "java/lang/String")) (by decide)
      have F142 : Fld Z h131 x133 "com/example/rickyard/rickyard/HarvestState" "harvested" "Ljava/lang/String;" .null := D138 (Or.inr (wd61 hw)) (ty := (.object "java/lang/String")) (by decide)
      have F143 : Fld Z h131 x133 "com/example/rickyard/rickyard/HarvestState" "started" "Ljava/lang/String;" .null := D138 (Or.inr (wd63 hw)) (ty := (.object "java/lang/String")) (by decide)
      have F144 : Fld Z h131 x133 "com/example/rickyard/rickyard/HarvestState" "from" "Ljava/lang/String;" .null := D138 (Or.inr (wd65 hw)) (ty := (.object "java/lang/String")) (by decide)
      have F145 : Fld Z h131 x133 "com/example/rickyard/rickyard/HarvestState" "token" "Ljava/lang/String;" .null := D138 (Or.inr (wd67 hw)) (ty := (.object "java/lang/String")) (by decide)
      refine Walk.dup (pc' := 56) d_prog_1_method_5_code_55 rfl ?_
      refine Walk.aloadN (pc' := 57) d_prog_1_method_5_code_56 rfl rfl ?_
      refine Walk.getF (pc' := 60) (host := "") (Or.inl (wd54 hw)) Via.refl (F0.kq K132 (fun q => q)) d_prog_1_method_5_code_57 ?_
      refine Walk.aloadN (pc' := 61) d_prog_1_method_5_code_60 rfl rfl ?_
      refine Walk.getF (pc' := 64) (host := "") (Or.inl (wd56 hw)) Via.refl (F1.kq K132 (fun q => q)) d_prog_1_method_5_code_61 ?_
      refine Walk.aloadN (pc' := 65) d_prog_1_method_5_code_64 rfl rfl ?_
      refine Walk.getF (pc' := 68) (host := "") (Or.inl (wd58 hw)) Via.refl (F2.kq K132 (fun q => q)) d_prog_1_method_5_code_65 ?_
      refine Walk.aloadN (pc' := 69) d_prog_1_method_5_code_68 rfl rd ?_
      refine Walk.aconstNull (pc' := 70) d_prog_1_method_5_code_69 ?_
      refine Walk.aconstNull (pc' := 71) d_prog_1_method_5_code_70 ?_
      refine Walk.aconstNull (pc' := 72) d_prog_1_method_5_code_71 ?_
      refine Walk.callI (pc' := 75) (a := x133) (Wd := 1) (as := [v0, v1, v2, d, .null, .null, .null]) (rest := [(.ref x133)]) (wd80 hw) (wd46 hw) (wd47 hw) ((c_hs hw x133 v0 r0 v1 r1 v2 r2 d rd .null rfl .null rfl .null rfl E137 F139 F140 F141 F142 F143 F144 F145 g136).pay (wd47 hw) (wd43 hw) (by decide) (by decide)) (hlen := lenOf pd7 rfl) (hd := d_prog_1_method_5_code_72) (hst := rfl) (hW := Nat.le_of_eq rfl) (hsz := rfl) (hc1 := Nat.le_of_ble_eq_true rfl) (hl1 := Nat.le_of_ble_eq_true rfl) (hv := (Fw.up (fun y q => Or.inl (q ▸ g135)))) (kk := fun v154 h158 Ts155 Li156 q157 K159 => ?_)
      obtain ⟨⟨rfl, rfl, rfl⟩, E153, F146, F147, F148, F149, F150, F151, F152⟩ := q157
      show Walk _ _ _ _ _ _ _ _ _ _ _ _ _ _ 1 7 75 _ [(.ref x133)]
      exact Walk.aret d_prog_1_method_5_code_75 rfl rfl rfl ⟨⟨_, rfl, E153, hn ▸ F152⟩, rfl, rfl⟩ (fun _ q => q) (Nat.le_of_ble_eq_true rfl) (Nat.le_of_ble_eq_true rfl)
    · skip
      refine Walk.nullNo (pc' := 20) d_prog_1_method_5_code_17 rn hn ?_
      refine Walk.newO (pc' := 23) (wd79 hw) (wd42 hw) (wd43 hw) d_prog_1_method_5_code_20 (by decide) (by decide) (fun h160 x162 g163 g164 g165 K161 E166 D167 => ?_)
      have F168 : Fld Z h160 x162 "com/example/rickyard/rickyard/HarvestState" "baseUrl" "Ljava/lang/String;" .null := D167 (Or.inr (wd55 hw)) (ty := (.object "java/lang/String")) (by decide)
      have F169 : Fld Z h160 x162 "com/example/rickyard/rickyard/HarvestState" "prefix" "Ljava/lang/String;" .null := D167 (Or.inr (wd57 hw)) (ty := (.object "java/lang/String")) (by decide)
      have F170 : Fld Z h160 x162 "com/example/rickyard/rickyard/HarvestState" "set" "Ljava/lang/String;" .null := D167 (Or.inr (wd59 hw)) (ty := (.object "java/lang/String")) (by decide)
      have F171 : Fld Z h160 x162 "com/example/rickyard/rickyard/HarvestState" "harvested" "Ljava/lang/String;" .null := D167 (Or.inr (wd61 hw)) (ty := (.object "java/lang/String")) (by decide)
      have F172 : Fld Z h160 x162 "com/example/rickyard/rickyard/HarvestState" "started" "Ljava/lang/String;" .null := D167 (Or.inr (wd63 hw)) (ty := (.object "java/lang/String")) (by decide)
      have F173 : Fld Z h160 x162 "com/example/rickyard/rickyard/HarvestState" "from" "Ljava/lang/String;" .null := D167 (Or.inr (wd65 hw)) (ty := (.object "java/lang/String")) (by decide)
      have F174 : Fld Z h160 x162 "com/example/rickyard/rickyard/HarvestState" "token" "Ljava/lang/String;" .null := D167 (Or.inr (wd67 hw)) (ty := (.object "java/lang/String")) (by decide)
      refine Walk.dup (pc' := 24) d_prog_1_method_5_code_23 rfl ?_
      refine Walk.aloadN (pc' := 25) d_prog_1_method_5_code_24 rfl rfl ?_
      refine Walk.getF (pc' := 28) (host := "") (Or.inl (wd54 hw)) Via.refl (F0.kq K161 (fun q => q)) d_prog_1_method_5_code_25 ?_
      refine Walk.aloadN (pc' := 29) d_prog_1_method_5_code_28 rfl rfl ?_
      refine Walk.getF (pc' := 32) (host := "") (Or.inl (wd56 hw)) Via.refl (F1.kq K161 (fun q => q)) d_prog_1_method_5_code_29 ?_
      refine Walk.aloadN (pc' := 33) d_prog_1_method_5_code_32 rfl rfl ?_
      refine Walk.getF (pc' := 36) (host := "") (Or.inl (wd58 hw)) Via.refl (F2.kq K161 (fun q => q)) d_prog_1_method_5_code_33 ?_
      refine Walk.aloadN (pc' := 37) d_prog_1_method_5_code_36 rfl rfl ?_
      refine Walk.getF (pc' := 40) (host := "") (Or.inl (wd60 hw)) Via.refl (F3.kq K161 (fun q => q)) d_prog_1_method_5_code_37 ?_
      refine Walk.aloadN (pc' := 41) d_prog_1_method_5_code_40 rfl rd ?_
      refine Walk.aloadN (pc' := 42) d_prog_1_method_5_code_41 rfl rfl ?_
      refine Walk.getF (pc' := 45) (host := "") (Or.inl (wd64 hw)) Via.refl (F5.kq K161 (fun q => q)) d_prog_1_method_5_code_42 ?_
      refine Walk.aloadN (pc' := 46) d_prog_1_method_5_code_45 rfl rn ?_
      refine Walk.callI (pc' := 49) (a := x162) (Wd := 1) (as := [v0, v1, v2, v3, d, v5, nx]) (rest := [(.ref x162)]) (wd80 hw) (wd46 hw) (wd47 hw) ((c_hs hw x162 v0 r0 v1 r1 v2 r2 v3 r3 d rd v5 r5 nx rn E166 F168 F169 F170 F171 F172 F173 F174 g165).pay (wd47 hw) (wd43 hw) (by decide) (by decide)) (hlen := lenOf pd7 rfl) (hd := d_prog_1_method_5_code_46) (hst := rfl) (hW := Nat.le_of_eq rfl) (hsz := rfl) (hc1 := Nat.le_of_ble_eq_true rfl) (hl1 := Nat.le_of_ble_eq_true rfl) (hv := (Fw.up (fun y q => Or.inl (q ▸ g164)))) (kk := fun v183 h187 Ts184 Li185 q186 K188 => ?_)
      obtain ⟨⟨rfl, rfl, rfl⟩, E182, F175, F176, F177, F178, F179, F180, F181⟩ := q186
      show Walk _ _ _ _ _ _ _ _ _ _ _ _ _ _ 1 7 49 _ [(.ref x162)]
      refine Walk.goto (pc' := 75) d_prog_1_method_5_code_49 ?_
      exact Walk.aret d_prog_1_method_5_code_75 rfl rfl rfl ⟨⟨_, rfl, E182, F181⟩, rfl, rfl⟩ (fun _ q => q) (Nat.le_of_ble_eq_true rfl) (Nat.le_of_ble_eq_true rfl)
  · skip
    refine Walk.nullNo (pc' := 7) d_prog_1_method_5_code_4 r4 hs ?_
    refine Walk.aloadN (pc' := 8) d_prog_1_method_5_code_7 rfl rfl ?_
    refine Walk.getF (pc' := 11) (host := "") (Or.inl (wd62 hw)) Via.refl F4 d_prog_1_method_5_code_8 ?_
    refine Walk.goto (pc' := 15) d_prog_1_method_5_code_11 ?_
    refine Walk.astoreN (pc' := 16) (Ls' := #[.val (.ref x), .val d, .val nx, .val v4]) d_prog_1_method_5_code_15 r4 (stV rfl (Or.inl rfl) (XT.cat1 r4) rfl) ?_
    refine Walk.aloadN (pc' := 17) d_prog_1_method_5_code_16 rfl rn ?_
    by_cases hn : nx = .null
    · skip
      refine Walk.nullYes (pc' := 52) d_prog_1_method_5_code_17 hn ?_
      refine Walk.newO (pc' := 55) (wd79 hw) (wd42 hw) (wd43 hw) d_prog_1_method_5_code_52 (by decide) (by decide) (fun h189 x191 g192 g193 g194 K190 E195 D196 => ?_)
      have F197 : Fld Z h189 x191 "com/example/rickyard/rickyard/HarvestState" "baseUrl" "Ljava/lang/String;" .null := D196 (Or.inr (wd55 hw)) (ty := (.object "java/lang/String")) (by decide)
      have F198 : Fld Z h189 x191 "com/example/rickyard/rickyard/HarvestState" "prefix" "Ljava/lang/String;" .null := D196 (Or.inr (wd57 hw)) (ty := (.object "java/lang/String")) (by decide)
      have F199 : Fld Z h189 x191 "com/example/rickyard/rickyard/HarvestState" "set" "Ljava/lang/String;" .null := D196 (Or.inr (wd59 hw)) (ty := (.object "java/lang/String")) (by decide)
      have F200 : Fld Z h189 x191 "com/example/rickyard/rickyard/HarvestState" "harvested" "Ljava/lang/String;" .null := D196 (Or.inr (wd61 hw)) (ty := (.object "java/lang/String")) (by decide)
      have F201 : Fld Z h189 x191 "com/example/rickyard/rickyard/HarvestState" "started" "Ljava/lang/String;" .null := D196 (Or.inr (wd63 hw)) (ty := (.object "java/lang/String")) (by decide)
      have F202 : Fld Z h189 x191 "com/example/rickyard/rickyard/HarvestState" "from" "Ljava/lang/String;" .null := D196 (Or.inr (wd65 hw)) (ty := (.object "java/lang/String")) (by decide)
      have F203 : Fld Z h189 x191 "com/example/rickyard/rickyard/HarvestState" "token" "Ljava/lang/String;" .null := D196 (Or.inr (wd67 hw)) (ty := (.object "java/lang/String")) (by decide)
      refine Walk.dup (pc' := 56) d_prog_1_method_5_code_55 rfl ?_
      refine Walk.aloadN (pc' := 57) d_prog_1_method_5_code_56 rfl rfl ?_
      refine Walk.getF (pc' := 60) (host := "") (Or.inl (wd54 hw)) Via.refl (F0.kq K190 (fun q => q)) d_prog_1_method_5_code_57 ?_
      refine Walk.aloadN (pc' := 61) d_prog_1_method_5_code_60 rfl rfl ?_
      refine Walk.getF (pc' := 64) (host := "") (Or.inl (wd56 hw)) Via.refl (F1.kq K190 (fun q => q)) d_prog_1_method_5_code_61 ?_
      refine Walk.aloadN (pc' := 65) d_prog_1_method_5_code_64 rfl rfl ?_
      refine Walk.getF (pc' := 68) (host := "") (Or.inl (wd58 hw)) Via.refl (F2.kq K190 (fun q => q)) d_prog_1_method_5_code_65 ?_
      refine Walk.aloadN (pc' := 69) d_prog_1_method_5_code_68 rfl r4 ?_
      refine Walk.aconstNull (pc' := 70) d_prog_1_method_5_code_69 ?_
      refine Walk.aconstNull (pc' := 71) d_prog_1_method_5_code_70 ?_
      refine Walk.aconstNull (pc' := 72) d_prog_1_method_5_code_71 ?_
      refine Walk.callI (pc' := 75) (a := x191) (Wd := 1) (as := [v0, v1, v2, v4, .null, .null, .null]) (rest := [(.ref x191)]) (wd80 hw) (wd46 hw) (wd47 hw) ((c_hs hw x191 v0 r0 v1 r1 v2 r2 v4 r4 .null rfl .null rfl .null rfl E195 F197 F198 F199 F200 F201 F202 F203 g194).pay (wd47 hw) (wd43 hw) (by decide) (by decide)) (hlen := lenOf pd7 rfl) (hd := d_prog_1_method_5_code_72) (hst := rfl) (hW := Nat.le_of_eq rfl) (hsz := rfl) (hc1 := Nat.le_of_ble_eq_true rfl) (hl1 := Nat.le_of_ble_eq_true rfl) (hv := (Fw.up (fun y q => Or.inl (q ▸ g193)))) (kk := fun v212 h216 Ts213 Li214 q215 K217 => ?_)
      obtain ⟨⟨rfl, rfl, rfl⟩, E211, F204, F205, F206, F207, F208, F209, F210⟩ := q215
      show Walk _ _ _ _ _ _ _ _ _ _ _ _ _ _ 1 7 75 _ [(.ref x191)]
      exact Walk.aret d_prog_1_method_5_code_75 rfl rfl rfl ⟨⟨_, rfl, E211, hn ▸ F210⟩, rfl, rfl⟩ (fun _ q => q) (Nat.le_of_ble_eq_true rfl) (Nat.le_of_ble_eq_true rfl)
    · skip
      refine Walk.nullNo (pc' := 20) d_prog_1_method_5_code_17 rn hn ?_
      refine Walk.newO (pc' := 23) (wd79 hw) (wd42 hw) (wd43 hw) d_prog_1_method_5_code_20 (by decide) (by decide) (fun h218 x220 g221 g222 g223 K219 E224 D225 => ?_)
      have F226 : Fld Z h218 x220 "com/example/rickyard/rickyard/HarvestState" "baseUrl" "Ljava/lang/String;" .null := D225 (Or.inr (wd55 hw)) (ty := (.object "java/lang/String")) (by decide)
      have F227 : Fld Z h218 x220 "com/example/rickyard/rickyard/HarvestState" "prefix" "Ljava/lang/String;" .null := D225 (Or.inr (wd57 hw)) (ty := (.object "java/lang/String")) (by decide)
      have F228 : Fld Z h218 x220 "com/example/rickyard/rickyard/HarvestState" "set" "Ljava/lang/String;" .null := D225 (Or.inr (wd59 hw)) (ty := (.object "java/lang/String")) (by decide)
      have F229 : Fld Z h218 x220 "com/example/rickyard/rickyard/HarvestState" "harvested" "Ljava/lang/String;" .null := D225 (Or.inr (wd61 hw)) (ty := (.object "java/lang/String")) (by decide)
      have F230 : Fld Z h218 x220 "com/example/rickyard/rickyard/HarvestState" "started" "Ljava/lang/String;" .null := D225 (Or.inr (wd63 hw)) (ty := (.object "java/lang/String")) (by decide)
      have F231 : Fld Z h218 x220 "com/example/rickyard/rickyard/HarvestState" "from" "Ljava/lang/String;" .null := D225 (Or.inr (wd65 hw)) (ty := (.object "java/lang/String")) (by decide)
      have F232 : Fld Z h218 x220 "com/example/rickyard/rickyard/HarvestState" "token" "Ljava/lang/String;" .null := D225 (Or.inr (wd67 hw)) (ty := (.object "java/lang/String")) (by decide)
      refine Walk.dup (pc' := 24) d_prog_1_method_5_code_23 rfl ?_
      refine Walk.aloadN (pc' := 25) d_prog_1_method_5_code_24 rfl rfl ?_
      refine Walk.getF (pc' := 28) (host := "") (Or.inl (wd54 hw)) Via.refl (F0.kq K219 (fun q => q)) d_prog_1_method_5_code_25 ?_
      refine Walk.aloadN (pc' := 29) d_prog_1_method_5_code_28 rfl rfl ?_
      refine Walk.getF (pc' := 32) (host := "") (Or.inl (wd56 hw)) Via.refl (F1.kq K219 (fun q => q)) d_prog_1_method_5_code_29 ?_
      refine Walk.aloadN (pc' := 33) d_prog_1_method_5_code_32 rfl rfl ?_
      refine Walk.getF (pc' := 36) (host := "") (Or.inl (wd58 hw)) Via.refl (F2.kq K219 (fun q => q)) d_prog_1_method_5_code_33 ?_
      refine Walk.aloadN (pc' := 37) d_prog_1_method_5_code_36 rfl rfl ?_
      refine Walk.getF (pc' := 40) (host := "") (Or.inl (wd60 hw)) Via.refl (F3.kq K219 (fun q => q)) d_prog_1_method_5_code_37 ?_
      refine Walk.aloadN (pc' := 41) d_prog_1_method_5_code_40 rfl r4 ?_
      refine Walk.aloadN (pc' := 42) d_prog_1_method_5_code_41 rfl rfl ?_
      refine Walk.getF (pc' := 45) (host := "") (Or.inl (wd64 hw)) Via.refl (F5.kq K219 (fun q => q)) d_prog_1_method_5_code_42 ?_
      refine Walk.aloadN (pc' := 46) d_prog_1_method_5_code_45 rfl rn ?_
      refine Walk.callI (pc' := 49) (a := x220) (Wd := 1) (as := [v0, v1, v2, v3, v4, v5, nx]) (rest := [(.ref x220)]) (wd80 hw) (wd46 hw) (wd47 hw) ((c_hs hw x220 v0 r0 v1 r1 v2 r2 v3 r3 v4 r4 v5 r5 nx rn E224 F226 F227 F228 F229 F230 F231 F232 g223).pay (wd47 hw) (wd43 hw) (by decide) (by decide)) (hlen := lenOf pd7 rfl) (hd := d_prog_1_method_5_code_46) (hst := rfl) (hW := Nat.le_of_eq rfl) (hsz := rfl) (hc1 := Nat.le_of_ble_eq_true rfl) (hl1 := Nat.le_of_ble_eq_true rfl) (hv := (Fw.up (fun y q => Or.inl (q ▸ g222)))) (kk := fun v241 h245 Ts242 Li243 q244 K246 => ?_)
      obtain ⟨⟨rfl, rfl, rfl⟩, E240, F233, F234, F235, F236, F237, F238, F239⟩ := q244
      show Walk _ _ _ _ _ _ _ _ _ _ _ _ _ _ 1 7 49 _ [(.ref x220)]
      refine Walk.goto (pc' := 75) d_prog_1_method_5_code_49 ?_
      exact Walk.aret d_prog_1_method_5_code_75 rfl rfl rfl ⟨⟨_, rfl, E240, F239⟩, rfl, rfl⟩ (fun _ q => q) (Nat.le_of_ble_eq_true rfl) (Nat.le_of_ble_eq_true rfl)
set_option maxRecDepth 65536 in
set_option maxHeartbeats 40000000 in
theorem c_begin {Z : State} {a0 : Array Value} (hw : ∀ d ∈ tables_1, d.before a0 Z = true) {h : Heap} {Ts : TsT} {Li : LiT} (x : Addr) (v0 : Value) (r0 : v0.isRef = true) (v1 : Value) (r1 : v1.isRef = true) (v2 : Value) (r2 : v2.isRef = true) (v3 : Value) (r3 : v3.isRef = true) (v4 : Value) (r4 : v4.isRef = true) (v5 : Value) (r5 : v5.isRef = true) (v6 : Value) (r6 : v6.isRef = true) (E1 : Exa Z h x "com/example/rickyard/rickyard/HarvestState") (F0 : Fld Z h x "com/example/rickyard/rickyard/HarvestState" "baseUrl" "Ljava/lang/String;" v0) (F1 : Fld Z h x "com/example/rickyard/rickyard/HarvestState" "prefix" "Ljava/lang/String;" v1) (F2 : Fld Z h x "com/example/rickyard/rickyard/HarvestState" "set" "Ljava/lang/String;" v2) (F3 : Fld Z h x "com/example/rickyard/rickyard/HarvestState" "harvested" "Ljava/lang/String;" v3) (F4 : Fld Z h x "com/example/rickyard/rickyard/HarvestState" "started" "Ljava/lang/String;" v4) (F5 : Fld Z h x "com/example/rickyard/rickyard/HarvestState" "from" "Ljava/lang/String;" v5) (F6 : Fld Z h x "com/example/rickyard/rickyard/HarvestState" "token" "Ljava/lang/String;" v6) (d : Value) (rd : d.isRef = true) :
    Con Z (⟨"com/example/rickyard/rickyard/HarvestState", "begin", "(Ljava/lang/String;)Lcom/example/rickyard/rickyard/HarvestState;"⟩ : MethodName) prog_1_method_4_code 2 (some (.object "com/example/rickyard/rickyard/HarvestState")) ({ frames := 3, cells := 1, slots := 7, locals := 44 } : Room) [(.ref x), d] h Ts Li (noW) (fun v h' Ts' Li' => (∃ y, v = some (.ref y) ∧ Exa Z h' y "com/example/rickyard/rickyard/HarvestState" ∧ Fld Z h' y "com/example/rickyard/rickyard/HarvestState" "token" "Ljava/lang/String;" .null) ∧ Ts' = Ts ∧ Li' = Li) := by
  refine Con.of (ws := Fw h noW) (Ls := #[.val (.ref x), .val d]) (plainFor_of_name pn4) (fun m => by simp [entryFrame, mkF, argsToLocals, cat_i, cat_j, cat_r, cat_n, XT.cat1 rd]) (fun E0 => ?_)
  refine Walk.newO (pc' := 3) (wd79 hw) (wd42 hw) (wd43 hw) d_prog_1_method_4_code_0 (by decide) (by decide) (fun h247 x249 g250 g251 g252 K248 E253 D254 => ?_)
  have F255 : Fld Z h247 x249 "com/example/rickyard/rickyard/HarvestState" "baseUrl" "Ljava/lang/String;" .null := D254 (Or.inr (wd55 hw)) (ty := (.object "java/lang/String")) (by decide)
  have F256 : Fld Z h247 x249 "com/example/rickyard/rickyard/HarvestState" "prefix" "Ljava/lang/String;" .null := D254 (Or.inr (wd57 hw)) (ty := (.object "java/lang/String")) (by decide)
  have F257 : Fld Z h247 x249 "com/example/rickyard/rickyard/HarvestState" "set" "Ljava/lang/String;" .null := D254 (Or.inr (wd59 hw)) (ty := (.object "java/lang/String")) (by decide)
  have F258 : Fld Z h247 x249 "com/example/rickyard/rickyard/HarvestState" "harvested" "Ljava/lang/String;" .null := D254 (Or.inr (wd61 hw)) (ty := (.object "java/lang/String")) (by decide)
  have F259 : Fld Z h247 x249 "com/example/rickyard/rickyard/HarvestState" "started" "Ljava/lang/String;" .null := D254 (Or.inr (wd63 hw)) (ty := (.object "java/lang/String")) (by decide)
  have F260 : Fld Z h247 x249 "com/example/rickyard/rickyard/HarvestState" "from" "Ljava/lang/String;" .null := D254 (Or.inr (wd65 hw)) (ty := (.object "java/lang/String")) (by decide)
  have F261 : Fld Z h247 x249 "com/example/rickyard/rickyard/HarvestState" "token" "Ljava/lang/String;" .null := D254 (Or.inr (wd67 hw)) (ty := (.object "java/lang/String")) (by decide)
  refine Walk.dup (pc' := 4) d_prog_1_method_4_code_3 rfl ?_
  refine Walk.aloadN (pc' := 5) d_prog_1_method_4_code_4 rfl rfl ?_
  refine Walk.getF (pc' := 8) (host := "") (Or.inl (wd54 hw)) Via.refl (F0.kq K248 (fun q => q)) d_prog_1_method_4_code_5 ?_
  refine Walk.aloadN (pc' := 9) d_prog_1_method_4_code_8 rfl rfl ?_
  refine Walk.getF (pc' := 12) (host := "") (Or.inl (wd56 hw)) Via.refl (F1.kq K248 (fun q => q)) d_prog_1_method_4_code_9 ?_
  refine Walk.aloadN (pc' := 13) d_prog_1_method_4_code_12 rfl rfl ?_
  refine Walk.getF (pc' := 16) (host := "") (Or.inl (wd58 hw)) Via.refl (F2.kq K248 (fun q => q)) d_prog_1_method_4_code_13 ?_
  refine Walk.aloadN (pc' := 17) d_prog_1_method_4_code_16 rfl rfl ?_
  refine Walk.getF (pc' := 20) (host := "") (Or.inl (wd60 hw)) Via.refl (F3.kq K248 (fun q => q)) d_prog_1_method_4_code_17 ?_
  refine Walk.aconstNull (pc' := 21) d_prog_1_method_4_code_20 ?_
  refine Walk.aloadN (pc' := 22) d_prog_1_method_4_code_21 rfl rd ?_
  refine Walk.aconstNull (pc' := 23) d_prog_1_method_4_code_22 ?_
  refine Walk.callI (pc' := 26) (a := x249) (Wd := 1) (as := [v0, v1, v2, v3, .null, d, .null]) (rest := [(.ref x249)]) (wd80 hw) (wd46 hw) (wd47 hw) ((c_hs hw x249 v0 r0 v1 r1 v2 r2 v3 r3 .null rfl d rd .null rfl E253 F255 F256 F257 F258 F259 F260 F261 g252).pay (wd47 hw) (wd43 hw) (by decide) (by decide)) (hlen := lenOf pd7 rfl) (hd := d_prog_1_method_4_code_23) (hst := rfl) (hW := Nat.le_of_eq rfl) (hsz := rfl) (hc1 := Nat.le_of_ble_eq_true rfl) (hl1 := Nat.le_of_ble_eq_true rfl) (hv := (Fw.up (fun y q => Or.inl (q ▸ g251)))) (kk := fun v270 h274 Ts271 Li272 q273 K275 => ?_)
  obtain ⟨⟨rfl, rfl, rfl⟩, E269, F262, F263, F264, F265, F266, F267, F268⟩ := q273
  show Walk _ _ _ _ _ _ _ _ _ _ _ _ _ _ 1 7 26 _ [(.ref x249)]
  exact Walk.aret d_prog_1_method_4_code_26 rfl rfl rfl ⟨⟨_, rfl, E269, F268⟩, rfl, rfl⟩ (fun _ q => q) (Nat.le_of_ble_eq_true rfl) (Nat.le_of_ble_eq_true rfl)
set_option maxRecDepth 65536 in
set_option maxHeartbeats 40000000 in
theorem c_none {Z : State} {a0 : Array Value} (hw : ∀ d ∈ tables_1, d.before a0 Z = true) {h : Heap} {Ts : TsT} {Li : LiT} (d : Value) (rd : d.isRef = true) (e : Value) (re : e.isRef = true) (f : Value) (rf : f.isRef = true) :
    Con Z (⟨"com/example/rickyard/rickyard/HarvestState", "none", "(Ljava/lang/String;Ljava/lang/String;Ljava/lang/String;)Lcom/example/rickyard/rickyard/HarvestState;"⟩ : MethodName) prog_1_method_2_code 3 (some (.object "com/example/rickyard/rickyard/HarvestState")) ({ frames := 3, cells := 1, slots := 7, locals := 44 } : Room) [d, e, f] h Ts Li (noW) (fun v h' Ts' Li' => (∃ y, v = some (.ref y) ∧ Exa Z h' y "com/example/rickyard/rickyard/HarvestState" ∧ Fld Z h' y "com/example/rickyard/rickyard/HarvestState" "token" "Ljava/lang/String;" .null) ∧ Ts' = Ts ∧ Li' = Li) := by
  refine Con.of (ws := Fw h noW) (Ls := #[.val d, .val e, .val f]) (plainFor_of_name pn4) (fun m => by simp [entryFrame, mkF, argsToLocals, cat_i, cat_j, cat_r, cat_n, XT.cat1 rd, XT.cat1 re, XT.cat1 rf]) (fun E0 => ?_)
  refine Walk.newO (pc' := 3) (wd79 hw) (wd42 hw) (wd43 hw) d_prog_1_method_2_code_0 (by decide) (by decide) (fun h276 x278 g279 g280 g281 K277 E282 D283 => ?_)
  have F284 : Fld Z h276 x278 "com/example/rickyard/rickyard/HarvestState" "baseUrl" "Ljava/lang/String;" .null := D283 (Or.inr (wd55 hw)) (ty := (.object "java/lang/String")) (by decide)
  have F285 : Fld Z h276 x278 "com/example/rickyard/rickyard/HarvestState" "prefix" "Ljava/lang/String;" .null := D283 (Or.inr (wd57 hw)) (ty := (.object "java/lang/String")) (by decide)
  have F286 : Fld Z h276 x278 "com/example/rickyard/rickyard/HarvestState" "set" "Ljava/lang/String;" .null := D283 (Or.inr (wd59 hw)) (ty := (.object "java/lang/String")) (by decide)
  have F287 : Fld Z h276 x278 "com/example/rickyard/rickyard/HarvestState" "harvested" "Ljava/lang/String;" .null := D283 (Or.inr (wd61 hw)) (ty := (.object "java/lang/String")) (by decide)
  have F288 : Fld Z h276 x278 "com/example/rickyard/rickyard/HarvestState" "started" "Ljava/lang/String;" .null := D283 (Or.inr (wd63 hw)) (ty := (.object "java/lang/String")) (by decide)
  have F289 : Fld Z h276 x278 "com/example/rickyard/rickyard/HarvestState" "from" "Ljava/lang/String;" .null := D283 (Or.inr (wd65 hw)) (ty := (.object "java/lang/String")) (by decide)
  have F290 : Fld Z h276 x278 "com/example/rickyard/rickyard/HarvestState" "token" "Ljava/lang/String;" .null := D283 (Or.inr (wd67 hw)) (ty := (.object "java/lang/String")) (by decide)
  refine Walk.dup (pc' := 4) d_prog_1_method_2_code_3 rfl ?_
  refine Walk.aloadN (pc' := 5) d_prog_1_method_2_code_4 rfl rd ?_
  refine Walk.aloadN (pc' := 6) d_prog_1_method_2_code_5 rfl re ?_
  refine Walk.aloadN (pc' := 7) d_prog_1_method_2_code_6 rfl rf ?_
  refine Walk.aconstNull (pc' := 8) d_prog_1_method_2_code_7 ?_
  refine Walk.aconstNull (pc' := 9) d_prog_1_method_2_code_8 ?_
  refine Walk.aconstNull (pc' := 10) d_prog_1_method_2_code_9 ?_
  refine Walk.aconstNull (pc' := 11) d_prog_1_method_2_code_10 ?_
  refine Walk.callI (pc' := 14) (a := x278) (Wd := 1) (as := [d, e, f, .null, .null, .null, .null]) (rest := [(.ref x278)]) (wd80 hw) (wd46 hw) (wd47 hw) ((c_hs hw x278 d rd e re f rf .null rfl .null rfl .null rfl .null rfl E282 F284 F285 F286 F287 F288 F289 F290 g281).pay (wd47 hw) (wd43 hw) (by decide) (by decide)) (hlen := lenOf pd7 rfl) (hd := d_prog_1_method_2_code_11) (hst := rfl) (hW := Nat.le_of_eq rfl) (hsz := rfl) (hc1 := Nat.le_of_ble_eq_true rfl) (hl1 := Nat.le_of_ble_eq_true rfl) (hv := (Fw.up (fun y q => Or.inl (q ▸ g280)))) (kk := fun v299 h303 Ts300 Li301 q302 K304 => ?_)
  obtain ⟨⟨rfl, rfl, rfl⟩, E298, F291, F292, F293, F294, F295, F296, F297⟩ := q302
  show Walk _ _ _ _ _ _ _ _ _ _ _ _ _ _ 1 7 14 _ [(.ref x278)]
  exact Walk.aret d_prog_1_method_2_code_14 rfl rfl rfl ⟨⟨_, rfl, E298, F297⟩, rfl, rfl⟩ (fun _ q => q) (Nat.le_of_ble_eq_true rfl) (Nat.le_of_ble_eq_true rfl)
set_option maxRecDepth 65536 in
set_option maxHeartbeats 40000000 in
theorem c_law {Z : State} {a0 : Array Value} (hw : ∀ d ∈ tables_1, d.before a0 Z = true) {h : Heap} {Ts : TsT} {Li : LiT} (p0 p1 p2 p3 : Int32) (z : Int32) (hz : ¬ z = 0) (O2 : Sta Z Z.heap "java/lang/String" "COMPACT_STRINGS" "Z" (.int z)) (hcw : Jvm.Lit.compactW.before a0 Z = true) (hL0 : LE Z h Ts Li []) (hh : Jvm.Lit.constHeld Z "java/lang/String" 7) (hu : Jvm.Lit.constHeld Z "com/example/rickyard/rickyard/HarvestStateInProgressPinLaw" 24) (hd : Jvm.Lit.constHeld Z "com/example/rickyard/rickyard/HarvestStateInProgressPinLaw" 33) :
    Con Z x code maxLocals ret room_1 [(.int p0), (.int p1), (.int p2), (.int p3)] h Ts Li (noW) (fun v h' Ts' Li' => v = some (.int 1)) := by
  refine Con.of (ws := Fw h noW) (Ls := #[.val (.int p0), .val (.int p1), .val (.int p2), .val (.int p3), .unset, .unset, .unset, .unset, .unset, .unset, .unset, .unset, .unset, .unset, .unset]) (plainFor_of_name pn2) (fun m => by first | rfl | (simp [entryFrame, mkF, argsToLocals, Value.category]; done)) (fun E0 => ?_)
  refine Walk.iloadN (pc' := 1) at_0 rfl ?_
  refine Walk.callS (pc' := 4) (Wd := 0) (as := [(.int p0)]) (rest := []) (wd0 hw) (wd1 hw) (wd2 hw) (wd3 hw) ((c_draw hw _ z hz O2 [] hcw hL0 hh).pay (wd3 hw) (wd2 hw) (by decide) (by decide)) (hlen := lenOf pd8 rfl) (hd := at_1) (hst := rfl) (hW := Nat.le_of_eq rfl) (hsz := rfl) (hc1 := Nat.le_of_ble_eq_true rfl) (hl1 := Nat.le_of_ble_eq_true rfl) (hv := Fw.upN) (kk := fun v307 h311 Ts308 Li309 q310 K312 => ?_)
  obtain ⟨⟨s0, rfl, rs0⟩, L305, m306⟩ := q310
  show Walk _ _ _ _ _ _ _ _ _ _ _ _ _ _ 4 8 4 _ [s0]
  refine Walk.astore (pc' := 6) (Ls' := #[.val (.int p0), .val (.int p1), .val (.int p2), .val (.int p3), .val s0, .unset, .unset, .unset, .unset, .unset, .unset, .unset, .unset, .unset, .unset]) at_4 rs0 (stV rfl (Or.inl rfl) (XT.cat1 rs0) rfl) ?_
  refine Walk.iloadN (pc' := 7) at_6 rfl ?_
  refine Walk.callS (pc' := 10) (Wd := 0) (as := [(.int p1)]) (rest := []) (wd0 hw) (wd1 hw) (wd2 hw) (wd3 hw) ((c_draw hw _ z hz O2 [] hcw L305 hh).pay (wd3 hw) (wd2 hw) (by decide) (by decide)) (hlen := lenOf pd8 rfl) (hd := at_7) (hst := rfl) (hW := Nat.le_of_eq rfl) (hsz := rfl) (hc1 := Nat.le_of_ble_eq_true rfl) (hl1 := Nat.le_of_ble_eq_true rfl) (hv := Fw.upN) (kk := fun v315 h319 Ts316 Li317 q318 K320 => ?_)
  obtain ⟨⟨s1, rfl, rs1⟩, L313, m314⟩ := q318
  show Walk _ _ _ _ _ _ _ _ _ _ _ _ _ _ 8 16 10 _ [s1]
  refine Walk.astore (pc' := 12) (Ls' := #[.val (.int p0), .val (.int p1), .val (.int p2), .val (.int p3), .val s0, .val s1, .unset, .unset, .unset, .unset, .unset, .unset, .unset, .unset, .unset]) at_10 rs1 (stV rfl (Or.inl rfl) (XT.cat1 rs1) rfl) ?_
  refine Walk.iloadN (pc' := 13) at_12 rfl ?_
  refine Walk.callS (pc' := 16) (Wd := 0) (as := [(.int p2)]) (rest := []) (wd0 hw) (wd1 hw) (wd2 hw) (wd3 hw) ((c_draw hw _ z hz O2 [] hcw L313 hh).pay (wd3 hw) (wd2 hw) (by decide) (by decide)) (hlen := lenOf pd8 rfl) (hd := at_13) (hst := rfl) (hW := Nat.le_of_eq rfl) (hsz := rfl) (hc1 := Nat.le_of_ble_eq_true rfl) (hl1 := Nat.le_of_ble_eq_true rfl) (hv := Fw.upN) (kk := fun v323 h327 Ts324 Li325 q326 K328 => ?_)
  obtain ⟨⟨s2, rfl, rs2⟩, L321, m322⟩ := q326
  show Walk _ _ _ _ _ _ _ _ _ _ _ _ _ _ 12 24 16 _ [s2]
  refine Walk.astore (pc' := 18) (Ls' := #[.val (.int p0), .val (.int p1), .val (.int p2), .val (.int p3), .val s0, .val s1, .val s2, .unset, .unset, .unset, .unset, .unset, .unset, .unset, .unset]) at_16 rs2 (stV rfl (Or.inl rfl) (XT.cat1 rs2) rfl) ?_
  refine Walk.iloadN (pc' := 19) at_18 rfl ?_
  refine Walk.callS (pc' := 22) (Wd := 0) (as := [(.int p3)]) (rest := []) (wd0 hw) (wd1 hw) (wd2 hw) (wd3 hw) ((c_draw hw _ z hz O2 [] hcw L321 hh).pay (wd3 hw) (wd2 hw) (by decide) (by decide)) (hlen := lenOf pd8 rfl) (hd := at_19) (hst := rfl) (hW := Nat.le_of_eq rfl) (hsz := rfl) (hc1 := Nat.le_of_ble_eq_true rfl) (hl1 := Nat.le_of_ble_eq_true rfl) (hv := Fw.upN) (kk := fun v331 h335 Ts332 Li333 q334 K336 => ?_)
  obtain ⟨⟨s3, rfl, rs3⟩, L329, m330⟩ := q334
  show Walk _ _ _ _ _ _ _ _ _ _ _ _ _ _ 16 32 22 _ [s3]
  refine Walk.astore (pc' := 24) (Ls' := #[.val (.int p0), .val (.int p1), .val (.int p2), .val (.int p3), .val s0, .val s1, .val s2, .val s3, .unset, .unset, .unset, .unset, .unset, .unset, .unset]) at_22 rs3 (stV rfl (Or.inl rfl) (XT.cat1 rs3) rfl) ?_
  refine Walk.iloadN (pc' := 25) at_24 rfl ?_
  refine Walk.bipush (pc' := 27) (10 : Int32) at_25 rfl ?_
  refine Walk.iushr (pc' := 28) at_27 ?_
  refine Walk.callS (pc' := 31) (Wd := 0) (as := [(.int (XT.ushr p3 (10 : Int32)))]) (rest := []) (wd0 hw) (wd1 hw) (wd2 hw) (wd3 hw) ((c_draw hw _ z hz O2 [] hcw L329 hh).pay (wd3 hw) (wd2 hw) (by decide) (by decide)) (hlen := lenOf pd8 rfl) (hd := at_28) (hst := rfl) (hW := Nat.le_of_eq rfl) (hsz := rfl) (hc1 := Nat.le_of_ble_eq_true rfl) (hl1 := Nat.le_of_ble_eq_true rfl) (hv := Fw.upN) (kk := fun v339 h343 Ts340 Li341 q342 K344 => ?_)
  obtain ⟨⟨s4, rfl, rs4⟩, L337, m338⟩ := q342
  show Walk _ _ _ _ _ _ _ _ _ _ _ _ _ _ 20 40 31 _ [s4]
  refine Walk.astore (pc' := 33) (Ls' := #[.val (.int p0), .val (.int p1), .val (.int p2), .val (.int p3), .val s0, .val s1, .val s2, .val s3, .val s4, .unset, .unset, .unset, .unset, .unset, .unset]) at_31 rs4 (stV rfl (Or.inl rfl) (XT.cat1 rs4) rfl) ?_
  refine Walk.newO (pc' := 36) (wd41 hw) (wd42 hw) (wd43 hw) at_33 (by decide) (by decide) (fun h345 x347 g348 g349 g350 K346 E351 D352 => ?_)
  have F353 : Fld Z h345 x347 "com/example/rickyard/rickyard/HarvestState" "baseUrl" "Ljava/lang/String;" .null := D352 (Or.inr (wd55 hw)) (ty := (.object "java/lang/String")) (by decide)
  have F354 : Fld Z h345 x347 "com/example/rickyard/rickyard/HarvestState" "prefix" "Ljava/lang/String;" .null := D352 (Or.inr (wd57 hw)) (ty := (.object "java/lang/String")) (by decide)
  have F355 : Fld Z h345 x347 "com/example/rickyard/rickyard/HarvestState" "set" "Ljava/lang/String;" .null := D352 (Or.inr (wd59 hw)) (ty := (.object "java/lang/String")) (by decide)
  have F356 : Fld Z h345 x347 "com/example/rickyard/rickyard/HarvestState" "harvested" "Ljava/lang/String;" .null := D352 (Or.inr (wd61 hw)) (ty := (.object "java/lang/String")) (by decide)
  have F357 : Fld Z h345 x347 "com/example/rickyard/rickyard/HarvestState" "started" "Ljava/lang/String;" .null := D352 (Or.inr (wd63 hw)) (ty := (.object "java/lang/String")) (by decide)
  have F358 : Fld Z h345 x347 "com/example/rickyard/rickyard/HarvestState" "from" "Ljava/lang/String;" .null := D352 (Or.inr (wd65 hw)) (ty := (.object "java/lang/String")) (by decide)
  have F359 : Fld Z h345 x347 "com/example/rickyard/rickyard/HarvestState" "token" "Ljava/lang/String;" .null := D352 (Or.inr (wd67 hw)) (ty := (.object "java/lang/String")) (by decide)
  refine Walk.dup (pc' := 37) at_36 rfl ?_
  obtain ⟨Tl360, e361, n362⟩ := LE.not (L337.kq K346) (t := "u") (by decide)
  subst e361
  refine Walk.ldcNew (pc' := 39) (wd44 hw) (fun d hd => hw d ((by decide +kernel : ∀ d ∈ Bundle.stringAtoms, d ∈ tables_1) d hd)) hu hcw rfl n362 (fun y q => q.elim id fun q => q.elim) (vs := [.int 117]) (z := 1) ⟨by decide, by decide⟩ (by decide) rfl at_37 (n := 4) (by decide) (by decide) (by decide) (by decide) (fun h363 y365 u366 k367 K364 E368 F369 F370 R371 => ?_)
  show Walk _ _ _ _ _ _ _ _ _ _ _ _ _ _ 23 55 39 _ [(.ref y365), (.ref x347), (.ref x347)]
  refine Walk.iloadN (pc' := 40) at_39 rfl ?_
  refine Walk.bipush (pc' := 42) (10 : Int32) at_40 rfl ?_
  refine Walk.iushr (pc' := 43) at_42 ?_
  refine Walk.callS (pc' := 46) (Wd := 3) (as := [(.int (XT.ushr p2 (10 : Int32)))]) (rest := [(.ref y365), (.ref x347), (.ref x347)]) (wd0 hw) (wd1 hw) (wd2 hw) (wd3 hw) ((c_draw hw _ z hz O2 ("u" :: []) hcw ((L337.kq K346).load (t := "u") (by decide) K364) hh).pay (wd3 hw) (wd2 hw) (by decide) (by decide)) (hlen := lenOf pd8 rfl) (hd := at_43) (hst := rfl) (hW := Nat.le_of_eq rfl) (hsz := rfl) (hc1 := Nat.le_of_ble_eq_true rfl) (hl1 := Nat.le_of_ble_eq_true rfl) (hv := Fw.upN) (kk := fun v374 h378 Ts375 Li376 q377 K379 => ?_)
  obtain ⟨⟨s5, rfl, rs5⟩, L372, m373⟩ := q377
  show Walk _ _ _ _ _ _ _ _ _ _ _ _ _ _ 27 63 46 _ [s5, (.ref y365), (.ref x347), (.ref x347)]
  refine Walk.iloadN (pc' := 47) at_46 rfl ?_
  refine Walk.bipush (pc' := 49) (10 : Int32) at_47 rfl ?_
  refine Walk.iushr (pc' := 50) at_49 ?_
  refine Walk.callS (pc' := 53) (Wd := 4) (as := [(.int (XT.ushr p0 (10 : Int32)))]) (rest := [s5, (.ref y365), (.ref x347), (.ref x347)]) (wd0 hw) (wd1 hw) (wd2 hw) (wd3 hw) ((c_draw hw _ z hz O2 ("u" :: []) hcw L372 hh).pay (wd3 hw) (wd2 hw) (by decide) (by decide)) (hlen := lenOf pd8 rfl) (hd := at_50) (hst := rfl) (hW := by simp [cat_i, cat_j, cat_r, cat_n, XT.cat1 rs5]) (hsz := rfl) (hc1 := Nat.le_of_ble_eq_true rfl) (hl1 := Nat.le_of_ble_eq_true rfl) (hv := Fw.upN) (kk := fun v382 h386 Ts383 Li384 q385 K387 => ?_)
  obtain ⟨⟨s6, rfl, rs6⟩, L380, m381⟩ := q385
  show Walk _ _ _ _ _ _ _ _ _ _ _ _ _ _ 31 71 53 _ [s6, s5, (.ref y365), (.ref x347), (.ref x347)]
  refine Walk.aload (pc' := 55) at_53 rfl rs4 ?_
  refine Walk.aload (pc' := 57) at_55 rfl rs2 ?_
  refine Walk.aload (pc' := 59) at_57 rfl rs3 ?_
  refine Walk.aload (pc' := 61) at_59 rfl rs0 ?_
  refine Walk.callI (pc' := 64) (a := x347) (Wd := 1) (as := [(.ref y365), s5, s6, s4, s2, s3, s0]) (rest := [(.ref x347)]) (wd45 hw) (wd46 hw) (wd47 hw) ((c_hs hw x347 (.ref y365) rfl s5 rs5 s6 rs6 s4 rs4 s2 rs2 s3 rs3 s0 rs0 (((E351.kq K364).kq K379).kq K387) (((F353.kq K364 (fun q => q)).kq K379 (fun q => q)).kq K387 (fun q => q)) (((F354.kq K364 (fun q => q)).kq K379 (fun q => q)).kq K387 (fun q => q)) (((F355.kq K364 (fun q => q)).kq K379 (fun q => q)).kq K387 (fun q => q)) (((F356.kq K364 (fun q => q)).kq K379 (fun q => q)).kq K387 (fun q => q)) (((F357.kq K364 (fun q => q)).kq K379 (fun q => q)).kq K387 (fun q => q)) (((F358.kq K364 (fun q => q)).kq K379 (fun q => q)).kq K387 (fun q => q)) (((F359.kq K364 (fun q => q)).kq K379 (fun q => q)).kq K387 (fun q => q)) g350).pay (wd47 hw) (wd43 hw) (by decide) (by decide)) (hlen := lenOf pd7 rfl) (hd := at_61) (hst := rfl) (hW := Nat.le_of_eq rfl) (hsz := rfl) (hc1 := Nat.le_of_ble_eq_true rfl) (hl1 := Nat.le_of_ble_eq_true rfl) (hv := (Fw.up (fun y q => Or.inl (q ▸ g349)))) (kk := fun v396 h400 Ts397 Li398 q399 K401 => ?_)
  obtain ⟨⟨rfl, rfl, rfl⟩, E395, F388, F389, F390, F391, F392, F393, F394⟩ := q399
  show Walk _ _ _ _ _ _ _ _ _ _ _ _ _ _ 31 71 64 _ [(.ref x347)]
  refine Walk.astore (pc' := 66) (Ls' := #[.val (.int p0), .val (.int p1), .val (.int p2), .val (.int p3), .val s0, .val s1, .val s2, .val s3, .val s4, .val (.ref x347), .unset, .unset, .unset, .unset, .unset]) at_64 rfl rfl ?_
  refine Walk.aload (pc' := 68) at_66 rfl rfl ?_
  rcases XT.refc rs0 with rfl | ⟨k0, rfl⟩
  · skip
    refine Walk.callV (pc' := 71) (a := x347) (Wd := 0) (as := []) (rest := []) (wd68 hw) (wd69 hw) (wd71 hw) (wd71 hw) (wd70 hw) E395 ((c_inp0 hw x347 F394).pay (wd72 hw) (wd43 hw) (by decide) (by decide)) (hlen := lenOf pd9 rfl) (hd := at_68) (hst := rfl) (hW := Nat.le_of_eq rfl) (hsz := rfl) (hc1 := Nat.le_of_ble_eq_true rfl) (hl1 := Nat.le_of_ble_eq_true rfl) (hv := Fw.upN) (kk := fun v402 h406 Ts403 Li404 q405 K407 => ?_)
    obtain ⟨rfl, rfl, rfl, rfl⟩ := q405
    show Walk _ _ _ _ _ _ _ _ _ _ _ _ _ _ 31 71 71 _ [(.int (0 : Int32))]
    refine Walk.aload (pc' := 73) at_71 rfl rfl ?_
    refine Walk.nullYes (pc' := 80) at_73 rfl ?_
    refine Walk.iconst (pc' := 81) (0 : Int32) at_80 rfl ?_
    refine Walk.icNo (pc' := 84) at_81 (XT.ii_ne_f rfl) ?_
    refine Walk.iconst (pc' := 85) (1 : Int32) at_84 rfl ?_
    refine Walk.goto (pc' := 89) at_85 ?_
    refine Walk.istore (pc' := 91) (Ls' := #[.val (.int p0), .val (.int p1), .val (.int p2), .val (.int p3), .val .null, .val s1, .val s2, .val s3, .val s4, .val (.ref x347), .val (.int (1 : Int32)), .unset, .unset, .unset, .unset]) at_89 rfl ?_
    refine Walk.aload (pc' := 93) at_91 rfl rfl ?_
    rcases XT.refc rs1 with rfl | ⟨k1, rfl⟩
    · skip
      obtain ⟨Tl408, e409, n410⟩ := LE.not L380 (t := "d") (by decide)
      subst e409
      refine Walk.ldcNew (pc' := 95) (wd73 hw) (fun d hd => hw d ((by decide +kernel : ∀ d ∈ Bundle.stringAtoms, d ∈ tables_1) d hd)) hd hcw rfl n410 (fun y q => q.elim id fun q => q.elim) (vs := [.int 100]) (z := 1) ⟨by decide, by decide⟩ (by decide) rfl at_93 (n := 4) (by decide) (by decide) (by decide) (by decide) (fun h411 y413 u414 k415 K412 E416 F417 F418 R419 => ?_)
      show Walk _ _ _ _ _ _ _ _ _ _ _ _ _ _ 33 79 95 _ [(.ref y413), (.ref x347)]
      refine Walk.aload (pc' := 97) at_95 rfl rfl ?_
      refine Walk.callV (pc' := 100) (a := x347) (Wd := 0) (as := [(.ref y413), .null]) (rest := []) (wd74 hw) (wd75 hw) (wd77 hw) (wd77 hw) (wd76 hw) (E395.kq K412) ((c_stored hw x347 (.ref y365) rfl s5 rs5 s6 rs6 s4 rs4 s2 rs2 s3 rs3 .null rfl (E395.kq K412) (F388.kq K412 (fun q => q)) (F389.kq K412 (fun q => q)) (F390.kq K412 (fun q => q)) (F391.kq K412 (fun q => q)) (F392.kq K412 (fun q => q)) (F393.kq K412 (fun q => q)) (F394.kq K412 (fun q => q)) (.ref y413) rfl .null rfl).pay (wd78 hw) (wd43 hw) (by decide) (by decide)) (hlen := lenOf pd10 rfl) (hd := at_97) (hst := rfl) (hW := Nat.le_of_eq rfl) (hsz := rfl) (hc1 := Nat.le_of_ble_eq_true rfl) (hl1 := Nat.le_of_ble_eq_true rfl) (hv := Fw.upN) (kk := fun v423 h427 Ts424 Li425 q426 K428 => ?_)
      obtain ⟨⟨y422, rfl, E420, F421⟩, rfl, rfl⟩ := q426
      show Walk _ _ _ _ _ _ _ _ _ _ _ _ _ _ 34 86 100 _ [(.ref y422)]
      refine Walk.astore (pc' := 102) (Ls' := #[.val (.int p0), .val (.int p1), .val (.int p2), .val (.int p3), .val .null, .val .null, .val s2, .val s3, .val s4, .val (.ref x347), .val (.int (1 : Int32)), .val (.ref y422), .unset, .unset, .unset]) at_100 rfl rfl ?_
      refine Walk.aload (pc' := 104) at_102 rfl rfl ?_
      refine Walk.callV (pc' := 107) (a := y422) (Wd := 0) (as := []) (rest := []) (wd68 hw) (wd69 hw) (wd71 hw) (wd71 hw) (wd70 hw) E420 ((c_inp0 hw y422 F421).pay (wd72 hw) (wd43 hw) (by decide) (by decide)) (hlen := lenOf pd9 rfl) (hd := at_104) (hst := rfl) (hW := Nat.le_of_eq rfl) (hsz := rfl) (hc1 := Nat.le_of_ble_eq_true rfl) (hl1 := Nat.le_of_ble_eq_true rfl) (hv := Fw.upN) (kk := fun v429 h433 Ts430 Li431 q432 K434 => ?_)
      obtain ⟨rfl, rfl, rfl, rfl⟩ := q432
      show Walk _ _ _ _ _ _ _ _ _ _ _ _ _ _ 34 86 107 _ [(.int (0 : Int32))]
      refine Walk.aload (pc' := 109) at_107 rfl rfl ?_
      refine Walk.nullYes (pc' := 116) at_109 rfl ?_
      refine Walk.iconst (pc' := 117) (0 : Int32) at_116 rfl ?_
      refine Walk.icNo (pc' := 120) at_117 (XT.ii_ne_f rfl) ?_
      refine Walk.iconst (pc' := 121) (1 : Int32) at_120 rfl ?_
      refine Walk.goto (pc' := 125) at_121 ?_
      refine Walk.istore (pc' := 127) (Ls' := #[.val (.int p0), .val (.int p1), .val (.int p2), .val (.int p3), .val .null, .val .null, .val s2, .val s3, .val s4, .val (.ref x347), .val (.int (1 : Int32)), .val (.ref y422), .val (.int (1 : Int32)), .unset, .unset]) at_125 rfl ?_
      refine Walk.aload (pc' := 129) at_127 rfl rfl ?_
      refine Walk.aload (pc' := 131) at_129 rfl rs3 ?_
      refine Walk.callV (pc' := 134) (a := x347) (Wd := 0) (as := [s3]) (rest := []) (wd81 hw) (wd82 hw) (wd84 hw) (wd84 hw) (wd83 hw) ((E395.kq K412).kq K428) ((c_begin hw x347 (.ref y365) rfl s5 rs5 s6 rs6 s4 rs4 s2 rs2 s3 rs3 .null rfl ((E395.kq K412).kq K428) ((F388.kq K412 (fun q => q)).kq K428 (fun q => q)) ((F389.kq K412 (fun q => q)).kq K428 (fun q => q)) ((F390.kq K412 (fun q => q)).kq K428 (fun q => q)) ((F391.kq K412 (fun q => q)).kq K428 (fun q => q)) ((F392.kq K412 (fun q => q)).kq K428 (fun q => q)) ((F393.kq K412 (fun q => q)).kq K428 (fun q => q)) ((F394.kq K412 (fun q => q)).kq K428 (fun q => q)) s3 rs3).pay (wd85 hw) (wd43 hw) (by decide) (by decide)) (hlen := lenOf pd11 rfl) (hd := at_131) (hst := rfl) (hW := Nat.le_of_eq rfl) (hsz := rfl) (hc1 := Nat.le_of_ble_eq_true rfl) (hl1 := Nat.le_of_ble_eq_true rfl) (hv := Fw.upN) (kk := fun v438 h442 Ts439 Li440 q441 K443 => ?_)
      obtain ⟨⟨y437, rfl, E435, F436⟩, rfl, rfl⟩ := q441
      show Walk _ _ _ _ _ _ _ _ _ _ _ _ _ _ 35 93 134 _ [(.ref y437)]
      refine Walk.callV (pc' := 137) (a := y437) (Wd := 0) (as := []) (rest := []) (wd68 hw) (wd69 hw) (wd71 hw) (wd71 hw) (wd70 hw) E435 ((c_inp0 hw y437 F436).pay (wd72 hw) (wd43 hw) (by decide) (by decide)) (hlen := lenOf pd9 rfl) (hd := at_134) (hst := rfl) (hW := Nat.le_of_eq rfl) (hsz := rfl) (hc1 := Nat.le_of_ble_eq_true rfl) (hl1 := Nat.le_of_ble_eq_true rfl) (hv := Fw.upN) (kk := fun v444 h448 Ts445 Li446 q447 K449 => ?_)
      obtain ⟨rfl, rfl, rfl, rfl⟩ := q447
      show Walk _ _ _ _ _ _ _ _ _ _ _ _ _ _ 35 93 137 _ [(.int (0 : Int32))]
      refine Walk.ifNo (pc' := 140) at_137 (XT.i0_ne_f rfl) ?_
      refine Walk.iconst (pc' := 141) (1 : Int32) at_140 rfl ?_
      refine Walk.goto (pc' := 145) at_141 ?_
      refine Walk.istore (pc' := 147) (Ls' := #[.val (.int p0), .val (.int p1), .val (.int p2), .val (.int p3), .val .null, .val .null, .val s2, .val s3, .val s4, .val (.ref x347), .val (.int (1 : Int32)), .val (.ref y422), .val (.int (1 : Int32)), .val (.int (1 : Int32)), .unset]) at_145 rfl ?_
      refine Walk.ldcAgain (pc' := 149) (a := y365) (wd44 hw) (List.mem_cons_of_mem _ (m381 _ (m373 _ (List.mem_cons_self ..)))) at_147 ?_
      refine Walk.aload (pc' := 151) at_149 rfl rs2 ?_
      refine Walk.aload (pc' := 153) at_151 rfl rs3 ?_
      refine Walk.callS (pc' := 156) (Wd := 0) (as := [(.ref y365), s2, s3]) (rest := []) (wd86 hw) (wd87 hw) (wd43 hw) (wd88 hw) ((c_none hw (.ref y365) rfl s2 rs2 s3 rs3).pay (wd88 hw) (wd43 hw) (by decide) (by decide)) (hlen := lenOf pd12 rfl) (hd := at_153) (hst := rfl) (hW := Nat.le_of_eq rfl) (hsz := rfl) (hc1 := Nat.le_of_ble_eq_true rfl) (hl1 := Nat.le_of_ble_eq_true rfl) (hv := Fw.upN) (kk := fun v453 h457 Ts454 Li455 q456 K458 => ?_)
      obtain ⟨⟨y452, rfl, E450, F451⟩, rfl, rfl⟩ := q456
      show Walk _ _ _ _ _ _ _ _ _ _ _ _ _ _ 36 100 156 _ [(.ref y452)]
      refine Walk.callV (pc' := 159) (a := y452) (Wd := 0) (as := []) (rest := []) (wd68 hw) (wd69 hw) (wd71 hw) (wd71 hw) (wd70 hw) E450 ((c_inp0 hw y452 F451).pay (wd72 hw) (wd43 hw) (by decide) (by decide)) (hlen := lenOf pd9 rfl) (hd := at_156) (hst := rfl) (hW := Nat.le_of_eq rfl) (hsz := rfl) (hc1 := Nat.le_of_ble_eq_true rfl) (hl1 := Nat.le_of_ble_eq_true rfl) (hv := Fw.upN) (kk := fun v459 h463 Ts460 Li461 q462 K464 => ?_)
      obtain ⟨rfl, rfl, rfl, rfl⟩ := q462
      show Walk _ _ _ _ _ _ _ _ _ _ _ _ _ _ 36 100 159 _ [(.int (0 : Int32))]
      refine Walk.ifNo (pc' := 162) at_159 (XT.i0_ne_f rfl) ?_
      refine Walk.iconst (pc' := 163) (1 : Int32) at_162 rfl ?_
      refine Walk.goto (pc' := 167) at_163 ?_
      refine Walk.istore (pc' := 169) (Ls' := #[.val (.int p0), .val (.int p1), .val (.int p2), .val (.int p3), .val .null, .val .null, .val s2, .val s3, .val s4, .val (.ref x347), .val (.int (1 : Int32)), .val (.ref y422), .val (.int (1 : Int32)), .val (.int (1 : Int32)), .val (.int (1 : Int32))]) at_167 rfl ?_
      refine Walk.iload (pc' := 171) at_169 rfl ?_
      refine Walk.ifNo (pc' := 174) at_171 (XT.i0_eq_f (by decide)) ?_
      refine Walk.iload (pc' := 176) at_174 rfl ?_
      refine Walk.ifNo (pc' := 179) at_176 (XT.i0_eq_f (by decide)) ?_
      refine Walk.iload (pc' := 181) at_179 rfl ?_
      refine Walk.ifNo (pc' := 184) at_181 (XT.i0_eq_f (by decide)) ?_
      refine Walk.iload (pc' := 186) at_184 rfl ?_
      refine Walk.ifNo (pc' := 189) at_186 (XT.i0_eq_f (by decide)) ?_
      refine Walk.iconst (pc' := 190) (1 : Int32) at_189 rfl ?_
      refine Walk.goto (pc' := 194) at_190 ?_
      exact Walk.nret at_194 rfl (by simp) rfl (fun _ q => q) (Nat.le_of_ble_eq_true rfl) (Nat.le_of_ble_eq_true rfl)
    · skip
      obtain ⟨Tl465, e466, n467⟩ := LE.not L380 (t := "d") (by decide)
      subst e466
      refine Walk.ldcNew (pc' := 95) (wd73 hw) (fun d hd => hw d ((by decide +kernel : ∀ d ∈ Bundle.stringAtoms, d ∈ tables_1) d hd)) hd hcw rfl n467 (fun y q => q.elim id fun q => q.elim) (vs := [.int 100]) (z := 1) ⟨by decide, by decide⟩ (by decide) rfl at_93 (n := 4) (by decide) (by decide) (by decide) (by decide) (fun h468 y470 u471 k472 K469 E473 F474 F475 R476 => ?_)
      show Walk _ _ _ _ _ _ _ _ _ _ _ _ _ _ 33 79 95 _ [(.ref y470), (.ref x347)]
      refine Walk.aload (pc' := 97) at_95 rfl rfl ?_
      refine Walk.callV (pc' := 100) (a := x347) (Wd := 0) (as := [(.ref y470), (.ref k1)]) (rest := []) (wd74 hw) (wd75 hw) (wd77 hw) (wd77 hw) (wd76 hw) (E395.kq K469) ((c_stored hw x347 (.ref y365) rfl s5 rs5 s6 rs6 s4 rs4 s2 rs2 s3 rs3 .null rfl (E395.kq K469) (F388.kq K469 (fun q => q)) (F389.kq K469 (fun q => q)) (F390.kq K469 (fun q => q)) (F391.kq K469 (fun q => q)) (F392.kq K469 (fun q => q)) (F393.kq K469 (fun q => q)) (F394.kq K469 (fun q => q)) (.ref y470) rfl (.ref k1) rfl).pay (wd78 hw) (wd43 hw) (by decide) (by decide)) (hlen := lenOf pd10 rfl) (hd := at_97) (hst := rfl) (hW := Nat.le_of_eq rfl) (hsz := rfl) (hc1 := Nat.le_of_ble_eq_true rfl) (hl1 := Nat.le_of_ble_eq_true rfl) (hv := Fw.upN) (kk := fun v480 h484 Ts481 Li482 q483 K485 => ?_)
      obtain ⟨⟨y479, rfl, E477, F478⟩, rfl, rfl⟩ := q483
      show Walk _ _ _ _ _ _ _ _ _ _ _ _ _ _ 34 86 100 _ [(.ref y479)]
      refine Walk.astore (pc' := 102) (Ls' := #[.val (.int p0), .val (.int p1), .val (.int p2), .val (.int p3), .val .null, .val (.ref k1), .val s2, .val s3, .val s4, .val (.ref x347), .val (.int (1 : Int32)), .val (.ref y479), .unset, .unset, .unset]) at_100 rfl rfl ?_
      refine Walk.aload (pc' := 104) at_102 rfl rfl ?_
      refine Walk.callV (pc' := 107) (a := y479) (Wd := 0) (as := []) (rest := []) (wd68 hw) (wd69 hw) (wd71 hw) (wd71 hw) (wd70 hw) E477 ((c_inp1 hw y479 _ F478).pay (wd72 hw) (wd43 hw) (by decide) (by decide)) (hlen := lenOf pd9 rfl) (hd := at_104) (hst := rfl) (hW := Nat.le_of_eq rfl) (hsz := rfl) (hc1 := Nat.le_of_ble_eq_true rfl) (hl1 := Nat.le_of_ble_eq_true rfl) (hv := Fw.upN) (kk := fun v486 h490 Ts487 Li488 q489 K491 => ?_)
      obtain ⟨rfl, rfl, rfl, rfl⟩ := q489
      show Walk _ _ _ _ _ _ _ _ _ _ _ _ _ _ 34 86 107 _ [(.int (1 : Int32))]
      refine Walk.aload (pc' := 109) at_107 rfl rfl ?_
      refine Walk.nullNo (pc' := 112) at_109 rfl (fun q => nomatch q) ?_
      refine Walk.iconst (pc' := 113) (1 : Int32) at_112 rfl ?_
      refine Walk.goto (pc' := 117) at_113 ?_
      refine Walk.icNo (pc' := 120) at_117 (XT.ii_ne_f rfl) ?_
      refine Walk.iconst (pc' := 121) (1 : Int32) at_120 rfl ?_
      refine Walk.goto (pc' := 125) at_121 ?_
      refine Walk.istore (pc' := 127) (Ls' := #[.val (.int p0), .val (.int p1), .val (.int p2), .val (.int p3), .val .null, .val (.ref k1), .val s2, .val s3, .val s4, .val (.ref x347), .val (.int (1 : Int32)), .val (.ref y479), .val (.int (1 : Int32)), .unset, .unset]) at_125 rfl ?_
      refine Walk.aload (pc' := 129) at_127 rfl rfl ?_
      refine Walk.aload (pc' := 131) at_129 rfl rs3 ?_
      refine Walk.callV (pc' := 134) (a := x347) (Wd := 0) (as := [s3]) (rest := []) (wd81 hw) (wd82 hw) (wd84 hw) (wd84 hw) (wd83 hw) ((E395.kq K469).kq K485) ((c_begin hw x347 (.ref y365) rfl s5 rs5 s6 rs6 s4 rs4 s2 rs2 s3 rs3 .null rfl ((E395.kq K469).kq K485) ((F388.kq K469 (fun q => q)).kq K485 (fun q => q)) ((F389.kq K469 (fun q => q)).kq K485 (fun q => q)) ((F390.kq K469 (fun q => q)).kq K485 (fun q => q)) ((F391.kq K469 (fun q => q)).kq K485 (fun q => q)) ((F392.kq K469 (fun q => q)).kq K485 (fun q => q)) ((F393.kq K469 (fun q => q)).kq K485 (fun q => q)) ((F394.kq K469 (fun q => q)).kq K485 (fun q => q)) s3 rs3).pay (wd85 hw) (wd43 hw) (by decide) (by decide)) (hlen := lenOf pd11 rfl) (hd := at_131) (hst := rfl) (hW := Nat.le_of_eq rfl) (hsz := rfl) (hc1 := Nat.le_of_ble_eq_true rfl) (hl1 := Nat.le_of_ble_eq_true rfl) (hv := Fw.upN) (kk := fun v495 h499 Ts496 Li497 q498 K500 => ?_)
      obtain ⟨⟨y494, rfl, E492, F493⟩, rfl, rfl⟩ := q498
      show Walk _ _ _ _ _ _ _ _ _ _ _ _ _ _ 35 93 134 _ [(.ref y494)]
      refine Walk.callV (pc' := 137) (a := y494) (Wd := 0) (as := []) (rest := []) (wd68 hw) (wd69 hw) (wd71 hw) (wd71 hw) (wd70 hw) E492 ((c_inp0 hw y494 F493).pay (wd72 hw) (wd43 hw) (by decide) (by decide)) (hlen := lenOf pd9 rfl) (hd := at_134) (hst := rfl) (hW := Nat.le_of_eq rfl) (hsz := rfl) (hc1 := Nat.le_of_ble_eq_true rfl) (hl1 := Nat.le_of_ble_eq_true rfl) (hv := Fw.upN) (kk := fun v501 h505 Ts502 Li503 q504 K506 => ?_)
      obtain ⟨rfl, rfl, rfl, rfl⟩ := q504
      show Walk _ _ _ _ _ _ _ _ _ _ _ _ _ _ 35 93 137 _ [(.int (0 : Int32))]
      refine Walk.ifNo (pc' := 140) at_137 (XT.i0_ne_f rfl) ?_
      refine Walk.iconst (pc' := 141) (1 : Int32) at_140 rfl ?_
      refine Walk.goto (pc' := 145) at_141 ?_
      refine Walk.istore (pc' := 147) (Ls' := #[.val (.int p0), .val (.int p1), .val (.int p2), .val (.int p3), .val .null, .val (.ref k1), .val s2, .val s3, .val s4, .val (.ref x347), .val (.int (1 : Int32)), .val (.ref y479), .val (.int (1 : Int32)), .val (.int (1 : Int32)), .unset]) at_145 rfl ?_
      refine Walk.ldcAgain (pc' := 149) (a := y365) (wd44 hw) (List.mem_cons_of_mem _ (m381 _ (m373 _ (List.mem_cons_self ..)))) at_147 ?_
      refine Walk.aload (pc' := 151) at_149 rfl rs2 ?_
      refine Walk.aload (pc' := 153) at_151 rfl rs3 ?_
      refine Walk.callS (pc' := 156) (Wd := 0) (as := [(.ref y365), s2, s3]) (rest := []) (wd86 hw) (wd87 hw) (wd43 hw) (wd88 hw) ((c_none hw (.ref y365) rfl s2 rs2 s3 rs3).pay (wd88 hw) (wd43 hw) (by decide) (by decide)) (hlen := lenOf pd12 rfl) (hd := at_153) (hst := rfl) (hW := Nat.le_of_eq rfl) (hsz := rfl) (hc1 := Nat.le_of_ble_eq_true rfl) (hl1 := Nat.le_of_ble_eq_true rfl) (hv := Fw.upN) (kk := fun v510 h514 Ts511 Li512 q513 K515 => ?_)
      obtain ⟨⟨y509, rfl, E507, F508⟩, rfl, rfl⟩ := q513
      show Walk _ _ _ _ _ _ _ _ _ _ _ _ _ _ 36 100 156 _ [(.ref y509)]
      refine Walk.callV (pc' := 159) (a := y509) (Wd := 0) (as := []) (rest := []) (wd68 hw) (wd69 hw) (wd71 hw) (wd71 hw) (wd70 hw) E507 ((c_inp0 hw y509 F508).pay (wd72 hw) (wd43 hw) (by decide) (by decide)) (hlen := lenOf pd9 rfl) (hd := at_156) (hst := rfl) (hW := Nat.le_of_eq rfl) (hsz := rfl) (hc1 := Nat.le_of_ble_eq_true rfl) (hl1 := Nat.le_of_ble_eq_true rfl) (hv := Fw.upN) (kk := fun v516 h520 Ts517 Li518 q519 K521 => ?_)
      obtain ⟨rfl, rfl, rfl, rfl⟩ := q519
      show Walk _ _ _ _ _ _ _ _ _ _ _ _ _ _ 36 100 159 _ [(.int (0 : Int32))]
      refine Walk.ifNo (pc' := 162) at_159 (XT.i0_ne_f rfl) ?_
      refine Walk.iconst (pc' := 163) (1 : Int32) at_162 rfl ?_
      refine Walk.goto (pc' := 167) at_163 ?_
      refine Walk.istore (pc' := 169) (Ls' := #[.val (.int p0), .val (.int p1), .val (.int p2), .val (.int p3), .val .null, .val (.ref k1), .val s2, .val s3, .val s4, .val (.ref x347), .val (.int (1 : Int32)), .val (.ref y479), .val (.int (1 : Int32)), .val (.int (1 : Int32)), .val (.int (1 : Int32))]) at_167 rfl ?_
      refine Walk.iload (pc' := 171) at_169 rfl ?_
      refine Walk.ifNo (pc' := 174) at_171 (XT.i0_eq_f (by decide)) ?_
      refine Walk.iload (pc' := 176) at_174 rfl ?_
      refine Walk.ifNo (pc' := 179) at_176 (XT.i0_eq_f (by decide)) ?_
      refine Walk.iload (pc' := 181) at_179 rfl ?_
      refine Walk.ifNo (pc' := 184) at_181 (XT.i0_eq_f (by decide)) ?_
      refine Walk.iload (pc' := 186) at_184 rfl ?_
      refine Walk.ifNo (pc' := 189) at_186 (XT.i0_eq_f (by decide)) ?_
      refine Walk.iconst (pc' := 190) (1 : Int32) at_189 rfl ?_
      refine Walk.goto (pc' := 194) at_190 ?_
      exact Walk.nret at_194 rfl (by simp) rfl (fun _ q => q) (Nat.le_of_ble_eq_true rfl) (Nat.le_of_ble_eq_true rfl)
  · skip
    refine Walk.callV (pc' := 71) (a := x347) (Wd := 0) (as := []) (rest := []) (wd68 hw) (wd69 hw) (wd71 hw) (wd71 hw) (wd70 hw) E395 ((c_inp1 hw x347 _ F394).pay (wd72 hw) (wd43 hw) (by decide) (by decide)) (hlen := lenOf pd9 rfl) (hd := at_68) (hst := rfl) (hW := Nat.le_of_eq rfl) (hsz := rfl) (hc1 := Nat.le_of_ble_eq_true rfl) (hl1 := Nat.le_of_ble_eq_true rfl) (hv := Fw.upN) (kk := fun v522 h526 Ts523 Li524 q525 K527 => ?_)
    obtain ⟨rfl, rfl, rfl, rfl⟩ := q525
    show Walk _ _ _ _ _ _ _ _ _ _ _ _ _ _ 31 71 71 _ [(.int (1 : Int32))]
    refine Walk.aload (pc' := 73) at_71 rfl rfl ?_
    refine Walk.nullNo (pc' := 76) at_73 rfl (fun q => nomatch q) ?_
    refine Walk.iconst (pc' := 77) (1 : Int32) at_76 rfl ?_
    refine Walk.goto (pc' := 81) at_77 ?_
    refine Walk.icNo (pc' := 84) at_81 (XT.ii_ne_f rfl) ?_
    refine Walk.iconst (pc' := 85) (1 : Int32) at_84 rfl ?_
    refine Walk.goto (pc' := 89) at_85 ?_
    refine Walk.istore (pc' := 91) (Ls' := #[.val (.int p0), .val (.int p1), .val (.int p2), .val (.int p3), .val (.ref k0), .val s1, .val s2, .val s3, .val s4, .val (.ref x347), .val (.int (1 : Int32)), .unset, .unset, .unset, .unset]) at_89 rfl ?_
    refine Walk.aload (pc' := 93) at_91 rfl rfl ?_
    rcases XT.refc rs1 with rfl | ⟨k1, rfl⟩
    · skip
      obtain ⟨Tl528, e529, n530⟩ := LE.not L380 (t := "d") (by decide)
      subst e529
      refine Walk.ldcNew (pc' := 95) (wd73 hw) (fun d hd => hw d ((by decide +kernel : ∀ d ∈ Bundle.stringAtoms, d ∈ tables_1) d hd)) hd hcw rfl n530 (fun y q => q.elim id fun q => q.elim) (vs := [.int 100]) (z := 1) ⟨by decide, by decide⟩ (by decide) rfl at_93 (n := 4) (by decide) (by decide) (by decide) (by decide) (fun h531 y533 u534 k535 K532 E536 F537 F538 R539 => ?_)
      show Walk _ _ _ _ _ _ _ _ _ _ _ _ _ _ 33 79 95 _ [(.ref y533), (.ref x347)]
      refine Walk.aload (pc' := 97) at_95 rfl rfl ?_
      refine Walk.callV (pc' := 100) (a := x347) (Wd := 0) (as := [(.ref y533), .null]) (rest := []) (wd74 hw) (wd75 hw) (wd77 hw) (wd77 hw) (wd76 hw) (E395.kq K532) ((c_stored hw x347 (.ref y365) rfl s5 rs5 s6 rs6 s4 rs4 s2 rs2 s3 rs3 (.ref k0) rfl (E395.kq K532) (F388.kq K532 (fun q => q)) (F389.kq K532 (fun q => q)) (F390.kq K532 (fun q => q)) (F391.kq K532 (fun q => q)) (F392.kq K532 (fun q => q)) (F393.kq K532 (fun q => q)) (F394.kq K532 (fun q => q)) (.ref y533) rfl .null rfl).pay (wd78 hw) (wd43 hw) (by decide) (by decide)) (hlen := lenOf pd10 rfl) (hd := at_97) (hst := rfl) (hW := Nat.le_of_eq rfl) (hsz := rfl) (hc1 := Nat.le_of_ble_eq_true rfl) (hl1 := Nat.le_of_ble_eq_true rfl) (hv := Fw.upN) (kk := fun v543 h547 Ts544 Li545 q546 K548 => ?_)
      obtain ⟨⟨y542, rfl, E540, F541⟩, rfl, rfl⟩ := q546
      show Walk _ _ _ _ _ _ _ _ _ _ _ _ _ _ 34 86 100 _ [(.ref y542)]
      refine Walk.astore (pc' := 102) (Ls' := #[.val (.int p0), .val (.int p1), .val (.int p2), .val (.int p3), .val (.ref k0), .val .null, .val s2, .val s3, .val s4, .val (.ref x347), .val (.int (1 : Int32)), .val (.ref y542), .unset, .unset, .unset]) at_100 rfl rfl ?_
      refine Walk.aload (pc' := 104) at_102 rfl rfl ?_
      refine Walk.callV (pc' := 107) (a := y542) (Wd := 0) (as := []) (rest := []) (wd68 hw) (wd69 hw) (wd71 hw) (wd71 hw) (wd70 hw) E540 ((c_inp0 hw y542 F541).pay (wd72 hw) (wd43 hw) (by decide) (by decide)) (hlen := lenOf pd9 rfl) (hd := at_104) (hst := rfl) (hW := Nat.le_of_eq rfl) (hsz := rfl) (hc1 := Nat.le_of_ble_eq_true rfl) (hl1 := Nat.le_of_ble_eq_true rfl) (hv := Fw.upN) (kk := fun v549 h553 Ts550 Li551 q552 K554 => ?_)
      obtain ⟨rfl, rfl, rfl, rfl⟩ := q552
      show Walk _ _ _ _ _ _ _ _ _ _ _ _ _ _ 34 86 107 _ [(.int (0 : Int32))]
      refine Walk.aload (pc' := 109) at_107 rfl rfl ?_
      refine Walk.nullYes (pc' := 116) at_109 rfl ?_
      refine Walk.iconst (pc' := 117) (0 : Int32) at_116 rfl ?_
      refine Walk.icNo (pc' := 120) at_117 (XT.ii_ne_f rfl) ?_
      refine Walk.iconst (pc' := 121) (1 : Int32) at_120 rfl ?_
      refine Walk.goto (pc' := 125) at_121 ?_
      refine Walk.istore (pc' := 127) (Ls' := #[.val (.int p0), .val (.int p1), .val (.int p2), .val (.int p3), .val (.ref k0), .val .null, .val s2, .val s3, .val s4, .val (.ref x347), .val (.int (1 : Int32)), .val (.ref y542), .val (.int (1 : Int32)), .unset, .unset]) at_125 rfl ?_
      refine Walk.aload (pc' := 129) at_127 rfl rfl ?_
      refine Walk.aload (pc' := 131) at_129 rfl rs3 ?_
      refine Walk.callV (pc' := 134) (a := x347) (Wd := 0) (as := [s3]) (rest := []) (wd81 hw) (wd82 hw) (wd84 hw) (wd84 hw) (wd83 hw) ((E395.kq K532).kq K548) ((c_begin hw x347 (.ref y365) rfl s5 rs5 s6 rs6 s4 rs4 s2 rs2 s3 rs3 (.ref k0) rfl ((E395.kq K532).kq K548) ((F388.kq K532 (fun q => q)).kq K548 (fun q => q)) ((F389.kq K532 (fun q => q)).kq K548 (fun q => q)) ((F390.kq K532 (fun q => q)).kq K548 (fun q => q)) ((F391.kq K532 (fun q => q)).kq K548 (fun q => q)) ((F392.kq K532 (fun q => q)).kq K548 (fun q => q)) ((F393.kq K532 (fun q => q)).kq K548 (fun q => q)) ((F394.kq K532 (fun q => q)).kq K548 (fun q => q)) s3 rs3).pay (wd85 hw) (wd43 hw) (by decide) (by decide)) (hlen := lenOf pd11 rfl) (hd := at_131) (hst := rfl) (hW := Nat.le_of_eq rfl) (hsz := rfl) (hc1 := Nat.le_of_ble_eq_true rfl) (hl1 := Nat.le_of_ble_eq_true rfl) (hv := Fw.upN) (kk := fun v558 h562 Ts559 Li560 q561 K563 => ?_)
      obtain ⟨⟨y557, rfl, E555, F556⟩, rfl, rfl⟩ := q561
      show Walk _ _ _ _ _ _ _ _ _ _ _ _ _ _ 35 93 134 _ [(.ref y557)]
      refine Walk.callV (pc' := 137) (a := y557) (Wd := 0) (as := []) (rest := []) (wd68 hw) (wd69 hw) (wd71 hw) (wd71 hw) (wd70 hw) E555 ((c_inp0 hw y557 F556).pay (wd72 hw) (wd43 hw) (by decide) (by decide)) (hlen := lenOf pd9 rfl) (hd := at_134) (hst := rfl) (hW := Nat.le_of_eq rfl) (hsz := rfl) (hc1 := Nat.le_of_ble_eq_true rfl) (hl1 := Nat.le_of_ble_eq_true rfl) (hv := Fw.upN) (kk := fun v564 h568 Ts565 Li566 q567 K569 => ?_)
      obtain ⟨rfl, rfl, rfl, rfl⟩ := q567
      show Walk _ _ _ _ _ _ _ _ _ _ _ _ _ _ 35 93 137 _ [(.int (0 : Int32))]
      refine Walk.ifNo (pc' := 140) at_137 (XT.i0_ne_f rfl) ?_
      refine Walk.iconst (pc' := 141) (1 : Int32) at_140 rfl ?_
      refine Walk.goto (pc' := 145) at_141 ?_
      refine Walk.istore (pc' := 147) (Ls' := #[.val (.int p0), .val (.int p1), .val (.int p2), .val (.int p3), .val (.ref k0), .val .null, .val s2, .val s3, .val s4, .val (.ref x347), .val (.int (1 : Int32)), .val (.ref y542), .val (.int (1 : Int32)), .val (.int (1 : Int32)), .unset]) at_145 rfl ?_
      refine Walk.ldcAgain (pc' := 149) (a := y365) (wd44 hw) (List.mem_cons_of_mem _ (m381 _ (m373 _ (List.mem_cons_self ..)))) at_147 ?_
      refine Walk.aload (pc' := 151) at_149 rfl rs2 ?_
      refine Walk.aload (pc' := 153) at_151 rfl rs3 ?_
      refine Walk.callS (pc' := 156) (Wd := 0) (as := [(.ref y365), s2, s3]) (rest := []) (wd86 hw) (wd87 hw) (wd43 hw) (wd88 hw) ((c_none hw (.ref y365) rfl s2 rs2 s3 rs3).pay (wd88 hw) (wd43 hw) (by decide) (by decide)) (hlen := lenOf pd12 rfl) (hd := at_153) (hst := rfl) (hW := Nat.le_of_eq rfl) (hsz := rfl) (hc1 := Nat.le_of_ble_eq_true rfl) (hl1 := Nat.le_of_ble_eq_true rfl) (hv := Fw.upN) (kk := fun v573 h577 Ts574 Li575 q576 K578 => ?_)
      obtain ⟨⟨y572, rfl, E570, F571⟩, rfl, rfl⟩ := q576
      show Walk _ _ _ _ _ _ _ _ _ _ _ _ _ _ 36 100 156 _ [(.ref y572)]
      refine Walk.callV (pc' := 159) (a := y572) (Wd := 0) (as := []) (rest := []) (wd68 hw) (wd69 hw) (wd71 hw) (wd71 hw) (wd70 hw) E570 ((c_inp0 hw y572 F571).pay (wd72 hw) (wd43 hw) (by decide) (by decide)) (hlen := lenOf pd9 rfl) (hd := at_156) (hst := rfl) (hW := Nat.le_of_eq rfl) (hsz := rfl) (hc1 := Nat.le_of_ble_eq_true rfl) (hl1 := Nat.le_of_ble_eq_true rfl) (hv := Fw.upN) (kk := fun v579 h583 Ts580 Li581 q582 K584 => ?_)
      obtain ⟨rfl, rfl, rfl, rfl⟩ := q582
      show Walk _ _ _ _ _ _ _ _ _ _ _ _ _ _ 36 100 159 _ [(.int (0 : Int32))]
      refine Walk.ifNo (pc' := 162) at_159 (XT.i0_ne_f rfl) ?_
      refine Walk.iconst (pc' := 163) (1 : Int32) at_162 rfl ?_
      refine Walk.goto (pc' := 167) at_163 ?_
      refine Walk.istore (pc' := 169) (Ls' := #[.val (.int p0), .val (.int p1), .val (.int p2), .val (.int p3), .val (.ref k0), .val .null, .val s2, .val s3, .val s4, .val (.ref x347), .val (.int (1 : Int32)), .val (.ref y542), .val (.int (1 : Int32)), .val (.int (1 : Int32)), .val (.int (1 : Int32))]) at_167 rfl ?_
      refine Walk.iload (pc' := 171) at_169 rfl ?_
      refine Walk.ifNo (pc' := 174) at_171 (XT.i0_eq_f (by decide)) ?_
      refine Walk.iload (pc' := 176) at_174 rfl ?_
      refine Walk.ifNo (pc' := 179) at_176 (XT.i0_eq_f (by decide)) ?_
      refine Walk.iload (pc' := 181) at_179 rfl ?_
      refine Walk.ifNo (pc' := 184) at_181 (XT.i0_eq_f (by decide)) ?_
      refine Walk.iload (pc' := 186) at_184 rfl ?_
      refine Walk.ifNo (pc' := 189) at_186 (XT.i0_eq_f (by decide)) ?_
      refine Walk.iconst (pc' := 190) (1 : Int32) at_189 rfl ?_
      refine Walk.goto (pc' := 194) at_190 ?_
      exact Walk.nret at_194 rfl (by simp) rfl (fun _ q => q) (Nat.le_of_ble_eq_true rfl) (Nat.le_of_ble_eq_true rfl)
    · skip
      obtain ⟨Tl585, e586, n587⟩ := LE.not L380 (t := "d") (by decide)
      subst e586
      refine Walk.ldcNew (pc' := 95) (wd73 hw) (fun d hd => hw d ((by decide +kernel : ∀ d ∈ Bundle.stringAtoms, d ∈ tables_1) d hd)) hd hcw rfl n587 (fun y q => q.elim id fun q => q.elim) (vs := [.int 100]) (z := 1) ⟨by decide, by decide⟩ (by decide) rfl at_93 (n := 4) (by decide) (by decide) (by decide) (by decide) (fun h588 y590 u591 k592 K589 E593 F594 F595 R596 => ?_)
      show Walk _ _ _ _ _ _ _ _ _ _ _ _ _ _ 33 79 95 _ [(.ref y590), (.ref x347)]
      refine Walk.aload (pc' := 97) at_95 rfl rfl ?_
      refine Walk.callV (pc' := 100) (a := x347) (Wd := 0) (as := [(.ref y590), (.ref k1)]) (rest := []) (wd74 hw) (wd75 hw) (wd77 hw) (wd77 hw) (wd76 hw) (E395.kq K589) ((c_stored hw x347 (.ref y365) rfl s5 rs5 s6 rs6 s4 rs4 s2 rs2 s3 rs3 (.ref k0) rfl (E395.kq K589) (F388.kq K589 (fun q => q)) (F389.kq K589 (fun q => q)) (F390.kq K589 (fun q => q)) (F391.kq K589 (fun q => q)) (F392.kq K589 (fun q => q)) (F393.kq K589 (fun q => q)) (F394.kq K589 (fun q => q)) (.ref y590) rfl (.ref k1) rfl).pay (wd78 hw) (wd43 hw) (by decide) (by decide)) (hlen := lenOf pd10 rfl) (hd := at_97) (hst := rfl) (hW := Nat.le_of_eq rfl) (hsz := rfl) (hc1 := Nat.le_of_ble_eq_true rfl) (hl1 := Nat.le_of_ble_eq_true rfl) (hv := Fw.upN) (kk := fun v600 h604 Ts601 Li602 q603 K605 => ?_)
      obtain ⟨⟨y599, rfl, E597, F598⟩, rfl, rfl⟩ := q603
      show Walk _ _ _ _ _ _ _ _ _ _ _ _ _ _ 34 86 100 _ [(.ref y599)]
      refine Walk.astore (pc' := 102) (Ls' := #[.val (.int p0), .val (.int p1), .val (.int p2), .val (.int p3), .val (.ref k0), .val (.ref k1), .val s2, .val s3, .val s4, .val (.ref x347), .val (.int (1 : Int32)), .val (.ref y599), .unset, .unset, .unset]) at_100 rfl rfl ?_
      refine Walk.aload (pc' := 104) at_102 rfl rfl ?_
      refine Walk.callV (pc' := 107) (a := y599) (Wd := 0) (as := []) (rest := []) (wd68 hw) (wd69 hw) (wd71 hw) (wd71 hw) (wd70 hw) E597 ((c_inp1 hw y599 _ F598).pay (wd72 hw) (wd43 hw) (by decide) (by decide)) (hlen := lenOf pd9 rfl) (hd := at_104) (hst := rfl) (hW := Nat.le_of_eq rfl) (hsz := rfl) (hc1 := Nat.le_of_ble_eq_true rfl) (hl1 := Nat.le_of_ble_eq_true rfl) (hv := Fw.upN) (kk := fun v606 h610 Ts607 Li608 q609 K611 => ?_)
      obtain ⟨rfl, rfl, rfl, rfl⟩ := q609
      show Walk _ _ _ _ _ _ _ _ _ _ _ _ _ _ 34 86 107 _ [(.int (1 : Int32))]
      refine Walk.aload (pc' := 109) at_107 rfl rfl ?_
      refine Walk.nullNo (pc' := 112) at_109 rfl (fun q => nomatch q) ?_
      refine Walk.iconst (pc' := 113) (1 : Int32) at_112 rfl ?_
      refine Walk.goto (pc' := 117) at_113 ?_
      refine Walk.icNo (pc' := 120) at_117 (XT.ii_ne_f rfl) ?_
      refine Walk.iconst (pc' := 121) (1 : Int32) at_120 rfl ?_
      refine Walk.goto (pc' := 125) at_121 ?_
      refine Walk.istore (pc' := 127) (Ls' := #[.val (.int p0), .val (.int p1), .val (.int p2), .val (.int p3), .val (.ref k0), .val (.ref k1), .val s2, .val s3, .val s4, .val (.ref x347), .val (.int (1 : Int32)), .val (.ref y599), .val (.int (1 : Int32)), .unset, .unset]) at_125 rfl ?_
      refine Walk.aload (pc' := 129) at_127 rfl rfl ?_
      refine Walk.aload (pc' := 131) at_129 rfl rs3 ?_
      refine Walk.callV (pc' := 134) (a := x347) (Wd := 0) (as := [s3]) (rest := []) (wd81 hw) (wd82 hw) (wd84 hw) (wd84 hw) (wd83 hw) ((E395.kq K589).kq K605) ((c_begin hw x347 (.ref y365) rfl s5 rs5 s6 rs6 s4 rs4 s2 rs2 s3 rs3 (.ref k0) rfl ((E395.kq K589).kq K605) ((F388.kq K589 (fun q => q)).kq K605 (fun q => q)) ((F389.kq K589 (fun q => q)).kq K605 (fun q => q)) ((F390.kq K589 (fun q => q)).kq K605 (fun q => q)) ((F391.kq K589 (fun q => q)).kq K605 (fun q => q)) ((F392.kq K589 (fun q => q)).kq K605 (fun q => q)) ((F393.kq K589 (fun q => q)).kq K605 (fun q => q)) ((F394.kq K589 (fun q => q)).kq K605 (fun q => q)) s3 rs3).pay (wd85 hw) (wd43 hw) (by decide) (by decide)) (hlen := lenOf pd11 rfl) (hd := at_131) (hst := rfl) (hW := Nat.le_of_eq rfl) (hsz := rfl) (hc1 := Nat.le_of_ble_eq_true rfl) (hl1 := Nat.le_of_ble_eq_true rfl) (hv := Fw.upN) (kk := fun v615 h619 Ts616 Li617 q618 K620 => ?_)
      obtain ⟨⟨y614, rfl, E612, F613⟩, rfl, rfl⟩ := q618
      show Walk _ _ _ _ _ _ _ _ _ _ _ _ _ _ 35 93 134 _ [(.ref y614)]
      refine Walk.callV (pc' := 137) (a := y614) (Wd := 0) (as := []) (rest := []) (wd68 hw) (wd69 hw) (wd71 hw) (wd71 hw) (wd70 hw) E612 ((c_inp0 hw y614 F613).pay (wd72 hw) (wd43 hw) (by decide) (by decide)) (hlen := lenOf pd9 rfl) (hd := at_134) (hst := rfl) (hW := Nat.le_of_eq rfl) (hsz := rfl) (hc1 := Nat.le_of_ble_eq_true rfl) (hl1 := Nat.le_of_ble_eq_true rfl) (hv := Fw.upN) (kk := fun v621 h625 Ts622 Li623 q624 K626 => ?_)
      obtain ⟨rfl, rfl, rfl, rfl⟩ := q624
      show Walk _ _ _ _ _ _ _ _ _ _ _ _ _ _ 35 93 137 _ [(.int (0 : Int32))]
      refine Walk.ifNo (pc' := 140) at_137 (XT.i0_ne_f rfl) ?_
      refine Walk.iconst (pc' := 141) (1 : Int32) at_140 rfl ?_
      refine Walk.goto (pc' := 145) at_141 ?_
      refine Walk.istore (pc' := 147) (Ls' := #[.val (.int p0), .val (.int p1), .val (.int p2), .val (.int p3), .val (.ref k0), .val (.ref k1), .val s2, .val s3, .val s4, .val (.ref x347), .val (.int (1 : Int32)), .val (.ref y599), .val (.int (1 : Int32)), .val (.int (1 : Int32)), .unset]) at_145 rfl ?_
      refine Walk.ldcAgain (pc' := 149) (a := y365) (wd44 hw) (List.mem_cons_of_mem _ (m381 _ (m373 _ (List.mem_cons_self ..)))) at_147 ?_
      refine Walk.aload (pc' := 151) at_149 rfl rs2 ?_
      refine Walk.aload (pc' := 153) at_151 rfl rs3 ?_
      refine Walk.callS (pc' := 156) (Wd := 0) (as := [(.ref y365), s2, s3]) (rest := []) (wd86 hw) (wd87 hw) (wd43 hw) (wd88 hw) ((c_none hw (.ref y365) rfl s2 rs2 s3 rs3).pay (wd88 hw) (wd43 hw) (by decide) (by decide)) (hlen := lenOf pd12 rfl) (hd := at_153) (hst := rfl) (hW := Nat.le_of_eq rfl) (hsz := rfl) (hc1 := Nat.le_of_ble_eq_true rfl) (hl1 := Nat.le_of_ble_eq_true rfl) (hv := Fw.upN) (kk := fun v630 h634 Ts631 Li632 q633 K635 => ?_)
      obtain ⟨⟨y629, rfl, E627, F628⟩, rfl, rfl⟩ := q633
      show Walk _ _ _ _ _ _ _ _ _ _ _ _ _ _ 36 100 156 _ [(.ref y629)]
      refine Walk.callV (pc' := 159) (a := y629) (Wd := 0) (as := []) (rest := []) (wd68 hw) (wd69 hw) (wd71 hw) (wd71 hw) (wd70 hw) E627 ((c_inp0 hw y629 F628).pay (wd72 hw) (wd43 hw) (by decide) (by decide)) (hlen := lenOf pd9 rfl) (hd := at_156) (hst := rfl) (hW := Nat.le_of_eq rfl) (hsz := rfl) (hc1 := Nat.le_of_ble_eq_true rfl) (hl1 := Nat.le_of_ble_eq_true rfl) (hv := Fw.upN) (kk := fun v636 h640 Ts637 Li638 q639 K641 => ?_)
      obtain ⟨rfl, rfl, rfl, rfl⟩ := q639
      show Walk _ _ _ _ _ _ _ _ _ _ _ _ _ _ 36 100 159 _ [(.int (0 : Int32))]
      refine Walk.ifNo (pc' := 162) at_159 (XT.i0_ne_f rfl) ?_
      refine Walk.iconst (pc' := 163) (1 : Int32) at_162 rfl ?_
      refine Walk.goto (pc' := 167) at_163 ?_
      refine Walk.istore (pc' := 169) (Ls' := #[.val (.int p0), .val (.int p1), .val (.int p2), .val (.int p3), .val (.ref k0), .val (.ref k1), .val s2, .val s3, .val s4, .val (.ref x347), .val (.int (1 : Int32)), .val (.ref y599), .val (.int (1 : Int32)), .val (.int (1 : Int32)), .val (.int (1 : Int32))]) at_167 rfl ?_
      refine Walk.iload (pc' := 171) at_169 rfl ?_
      refine Walk.ifNo (pc' := 174) at_171 (XT.i0_eq_f (by decide)) ?_
      refine Walk.iload (pc' := 176) at_174 rfl ?_
      refine Walk.ifNo (pc' := 179) at_176 (XT.i0_eq_f (by decide)) ?_
      refine Walk.iload (pc' := 181) at_179 rfl ?_
      refine Walk.ifNo (pc' := 184) at_181 (XT.i0_eq_f (by decide)) ?_
      refine Walk.iload (pc' := 186) at_184 rfl ?_
      refine Walk.ifNo (pc' := 189) at_186 (XT.i0_eq_f (by decide)) ?_
      refine Walk.iconst (pc' := 190) (1 : Int32) at_189 rfl ?_
      refine Walk.goto (pc' := 194) at_190 ?_
      exact Walk.nret at_194 rfl (by simp) rfl (fun _ q => q) (Nat.le_of_ble_eq_true rfl) (Nat.le_of_ble_eq_true rfl)
set_option maxRecDepth 65536 in
set_option maxHeartbeats 40000000 in
theorem comes_1 {Post : Tables → Env → Array Value → State → Outcome → State → Prop} (hpost : ∀ tb e args s v u, (limb_1_1.after args s (.returned v) u = true ∧ limb_1_2.after args s (.returned v) u = true ∧ True) → FramedW s (.returned v) u (Jvm.fieldLocs frame_1_writes args s ++ Jvm.arrayLocs frame_1_arrays args s ++ Jvm.staticLocs frame_1_statics s) 56 3328 → Post tb e args s (.returned v) u) :
    ArmFor flags0 classFile x code maxLocals ret World_1 tables_1 room_1 Calls_1 rest_1 Pre_1 Post := by
  intro l hfl _ _ p e ha hc hk s m args below hf hA hF happ hP
  obtain ⟨hcalls, hrest, hpre⟩ := hP
  obtain ⟨-, -, -, hnamed, -, -, -, hat⟩ := (Spec.applies_iff hf).mp happ
  obtain ⟨hg, hn⟩ := and_e (Cond.before_iff.mp (show (Jvm.Cond.and given_1 narrow_1).before args s = true from hpre))
  obtain ⟨h1, b0⟩ := and_e hg
  obtain ⟨a0, b1⟩ := and_e b0
  obtain ⟨a1, b2⟩ := and_e b1
  obtain ⟨a2, b3⟩ := and_e b2
  obtain ⟨u0, u1, u2, u3, rfl⟩ : ∃ u0 u1 u2 u3 : Value, args = #[u0, u1, u2, u3] := by
    have hs : args.size = 4 := by simpa [Cond.value, given_1] using h1
    obtain ⟨L⟩ := args
    match L, hs with
    | [u0, u1, u2, u3], _ => exact ⟨u0, u1, u2, u3, rfl⟩
  have hw := fun d (hd : d ∈ tables_1) => atoms_spec (ws := Jvm.Cond.code x code maxLocals ret :: tables_1) hat d (List.mem_cons_of_mem _ hd)
  obtain ⟨hsets, hown0⟩ := atoms_of _ (rest_1_c_eq ▸ (show rest_1_c.before _ s = true from hrest))
  obtain ⟨p0, e0⟩ := is_v a0
  obtain rfl : u0 = (.int p0) := Option.some.inj e0
  obtain ⟨p1, e1⟩ := is_v a1
  obtain rfl : u1 = (.int p1) := Option.some.inj e1
  obtain ⟨p2, e2⟩ := is_v a2
  obtain rfl : u2 = (.int p2) := Option.some.inj e2
  obtain ⟨p3, e3⟩ := is_v b3
  obtain rfl : u3 = (.int p3) := Option.some.inj e3
  obtain ⟨z, ez⟩ := is_v (Cond.before_iff.mp (hsets _ (List.mem_of_getElem? (i := 1) rfl)))
  have O2 : Sta s s.heap "java/lang/String" "COMPACT_STRINGS" "Z" (.int z) := Sta.start ez (Or.inl (hsets _ (List.mem_of_getElem? (i := 0) rfl)))
  have hcw := hsets _ (List.mem_of_getElem? (i := 2) rfl)
  have hz : ¬ (z = (0 : Int32)) := gotF (Cond.eq_ints ez (Term.int_eval (0))) (not_v (Cond.before_iff.mp hcw))
  obtain ⟨G3, eG, rG3⟩ := isR_v (Cond.before_iff.mp (hsets _ (List.mem_of_getElem? (i := 8) rfl)))
  have O4 : Sta s s.heap "jdk/internal/util/Preconditions" "SIOOBE_FORMATTER" "Ljava/util/function/BiFunction;" G3 := Sta.start eG (Or.inl (hsets _ (List.mem_of_getElem? (i := 7) rfl)))
  have hh : Jvm.Lit.constHeld s "java/lang/String" 7 := hcalls.1 ("java/lang/String", 7) (by decide)
  have hu : Jvm.Lit.constHeld s "com/example/rickyard/rickyard/HarvestStateInProgressPinLaw" 24 := hcalls.1 ("com/example/rickyard/rickyard/HarvestStateInProgressPinLaw", 24) (by decide)
  have hd : Jvm.Lit.constHeld s "com/example/rickyard/rickyard/HarvestStateInProgressPinLaw" 33 := hcalls.1 ("com/example/rickyard/rickyard/HarvestStateInProgressPinLaw", 33) (by decide)
  obtain ⟨n, o, h1, h2, h3, v, L, Ts', Li', rfl, hq, hls, N, hws, hE⟩ := c_law hw p0 p1 p2 p3 z hz O2 hcw ⟨[], rfl, (fun _ q => nomatch q), Or.inl (by decide)⟩ hh hu hd l tables_1 p e ha hc hk s m _ below hf ((Spec.applies_iff_loose hf).mp happ).1 ⟨rfl, State.Warmed39.refl s, rfl, ⟨Nat.le_refl _, fun _ _ q => q⟩, LS.start⟩ trivial
  obtain rfl := hq
  refine ⟨n, _, h1, h2, h3, hpost _ _ _ _ _ _ ⟨Cond.after_iff.mpr rfl, Cond.after_iff.mpr (eq_i res_at (Term.int_eval (1)) rfl), trivial⟩ ⟨hE.1, hE.2.1, hE.2.2.1, (hE.2.2.2.sift fun y hy => Or.inr (N y hy)).mono (by decide) (by decide)⟩⟩
theorem main_1_1 : Claimed_1_1 := comes_1 fun _ _ _ _ _ _ h hF => ⟨h.1, hF⟩
theorem main_1_2 : Claimed_1_2 := comes_1 fun _ _ _ _ _ _ h hF => ⟨h.2.1, hF⟩
end Jvm.Pilot.@@N@@
namespace Jvm.Pilot.@@N@@
open Jvm Jvm.ClassFile Sem Op Lib Jvm.Free Jvm.Stand Jvm.Pilot.@@N@@.Jvm.D
/-! MADE BY PROGRAM (witnessworld.py) out of the Statement's table words and the real class files: 20 classes; the members and pool entries that the words name. The judged class is class 1, her method 2. -/
namespace start1
open Jvm.ClassFile
def u (s : String) : CpInfo := .utf8 (stringToUtf16 s)
/-- a pool by its gaps: so many unusable entries, then the entry; so many at the end -/
def gap : Nat → List CpInfo → List CpInfo
  | 0, r => r
  | n + 1, r => .unusable :: gap n r
def poolList (es : List (Nat × CpInfo)) (last : Nat) : List CpInfo := es.foldr (fun e r => gap e.1 (e.2 :: r)) (gap last [])
def pool (es : List (Nat × CpInfo)) (last : Nat) : Array CpInfo := ⟨poolList es last⟩
def fileOf (pool : Array CpInfo) (this : Nat) (attrs : Array Attribute := #[]) (ms : Array MethodInfo := #[]) (fl : Nat := 33) (sup : Nat := 0) (ifs : Array Nat := #[]) (fds : Array FieldInfo := #[]) : ClassFile where
  minorVersion := 0
  majorVersion := 65
  constantPool := pool
  accessFlags := fl
  thisClass := this
  superClass := sup
  interfaces := ifs
  fields := fds
  methods := ms
  attributes := attrs
def plain (name : String) (sup : Option ClassId) : Class where
  name := name
  kind := .ordinary
  loader := none
  accessFlags := 33
  super := sup
  interfaces := #[]
  cf := none
  fields := #[]
  methods := #[]
  instanceTypes := #[]
  staticTypes := #[]
  resolved := #[]
  callSites := []
  init := .initialized
  statics := none
  mirror := none

def pool0 : Array CpInfo := pool [(5, u "<init>"), (0, u "()V"), (1, .class_ 10), (1, u "java/lang/Object")] 113

def k0c0 : Code := { maxStack := 0, maxLocals := 1, code := object_method_1_code, exceptionTable := #[], attributes := #[] }
def k0m0 : Method := { name := "<init>", desc := "()V", sig := { parameters := [], returnType := none }, accessFlags := 1, code := some k0c0 }
/-- java/lang/Object -/
def k0 : Class := { plain "java/lang/Object" none with
  accessFlags := 33
  interfaces := #[]
  cf := some (fileOf pool0 8 #[] #[{ accessFlags := 1, nameIndex := 5, descriptorIndex := 6, attributes := #[] }] 33 0 #[] #[])
  fields := #[]
  methods := #[k0m0]
  instanceTypes := #[]
  staticTypes := #[]
  resolved := Array.replicate 124 none
  statics := none }

def pool1 : Array CpInfo := pool [(2, .class_ 4), (1, u "java/lang/Object"), (0, u "<init>"), (0, u "()V"), (0, .class_ 8), (0, u "java/lang/String"), (0, .methodref 7 10), (0, .nameAndType 5 11), (0, u "([C)V"), (0, .methodref 7 13), (0, .nameAndType 14 15), (0, u "valueOf"), (0, u "(C)Ljava/lang/String;"), (0, .methodref 17 18), (0, .class_ 19), (0, .nameAndType 20 21), (0, u "com/example/rickyard/rickyard/HarvestStateInProgressPinLaw"), (0, u "draw"), (0, u "(I)Ljava/lang/String;"), (0, .class_ 23), (0, u "com/example/rickyard/rickyard/HarvestState"), (0, .string 25), (0, u "u"), (0, .methodref 22 27), (0, .nameAndType 5 28), (0, u "(Ljava/lang/String;Ljava/lang/String;Ljava/lang/String;Ljava/lang/String;Ljava/lang/String;Ljava/lang/String;Ljava/lang/String;)V"), (0, .methodref 22 30), (0, .nameAndType 31 32), (0, u "inProgress"), (0, u "()Z"), (0, .string 34), (0, u "d"), (0, .methodref 22 36), (0, .nameAndType 37 38), (0, u "stored"), (0, u "(Ljava/lang/String;Ljava/lang/String;)Lcom/example/rickyard/rickyard/HarvestState;"), (0, .methodref 22 40), (0, .nameAndType 41 42), (0, u "begin"), (0, u "(Ljava/lang/String;)Lcom/example/rickyard/rickyard/HarvestState;"), (0, .methodref 22 44), (0, .nameAndType 45 46), (0, u "none"), (0, u "(Ljava/lang/String;Ljava/lang/String;Ljava/lang/String;)Lcom/example/rickyard/rickyard/HarvestState;"), (3, u "law"), (0, u "(IIII)Z")] 2

def k1m0 : Method := { name := "<init>", desc := "()V", sig := { parameters := [], returnType := none }, accessFlags := 1, code := none }
def k1c1 : Code := { maxStack := 3, maxLocals := 1, code := method_2_code, exceptionTable := #[], attributes := #[] }
def k1m1 : Method := { name := "draw", desc := "(I)Ljava/lang/String;", sig := { parameters := [.int], returnType := some (.object "java/lang/String") }, accessFlags := 10, code := some k1c1 }
def k1c2 : Code := { maxStack := 9, maxLocals := 15, code := code, exceptionTable := #[], attributes := #[] }
def k1m2 : Method := { name := "law", desc := "(IIII)Z", sig := { parameters := [.int, .int, .int, .int], returnType := some .boolean }, accessFlags := 9, code := some k1c2 }
/-- com/example/rickyard/rickyard/HarvestStateInProgressPinLaw -/
def k1 : Class := { plain "com/example/rickyard/rickyard/HarvestStateInProgressPinLaw" (some 0) with
  accessFlags := 49
  interfaces := #[]
  cf := some (fileOf pool1 17 #[] #[{ accessFlags := 1, nameIndex := 5, descriptorIndex := 6, attributes := #[] }, { accessFlags := 10, nameIndex := 20, descriptorIndex := 21, attributes := #[] }, { accessFlags := 9, nameIndex := 50, descriptorIndex := 51, attributes := #[] }] 49 2 #[] #[])
  fields := #[]
  methods := #[k1m0, k1m1, k1m2]
  instanceTypes := #[]
  staticTypes := #[]
  resolved := Array.replicate 54 none
  statics := none }

def pool2 : Array CpInfo := pool [(1, .class_ 2), (0, u "java/io/Serializable"), (0, .class_ 4), (0, u "java/lang/Object")] 2

/-- java/io/Serializable -/
def k2 : Class := { plain "java/io/Serializable" (some 0) with
  accessFlags := 1537
  interfaces := #[]
  cf := some (fileOf pool2 1 #[] #[] 1537 3 #[] #[])
  fields := #[]
  methods := #[]
  instanceTypes := #[]
  staticTypes := #[]
  resolved := Array.replicate 7 none
  statics := none }

def pool3 : Array CpInfo := pool [(1, .class_ 2), (0, u "java/lang/Comparable"), (0, .class_ 4), (0, u "java/lang/Object")] 7

/-- java/lang/Comparable -/
def k3 : Class := { plain "java/lang/Comparable" (some 0) with
  accessFlags := 1537
  interfaces := #[]
  cf := some (fileOf pool3 1 #[] #[] 1537 3 #[] #[])
  fields := #[]
  methods := #[]
  instanceTypes := #[]
  staticTypes := #[]
  resolved := Array.replicate 12 none
  statics := none }

def pool4 : Array CpInfo := pool [(2, .class_ 4), (1, u "java/lang/CharSequence"), (42, .class_ 48), (0, u "java/lang/CharSequence$1CodePointIterator"), (10, .class_ 60), (0, u "java/lang/CharSequence$1CharIterator"), (5, .class_ 67), (0, u "java/lang/Object")] 63

/-- java/lang/CharSequence -/
def k4 : Class := { plain "java/lang/CharSequence" (some 0) with
  accessFlags := 1537
  interfaces := #[]
  cf := some (fileOf pool4 2 #[.nestMembers #[47, 59]] #[] 1537 66 #[] #[])
  fields := #[]
  methods := #[]
  instanceTypes := #[]
  staticTypes := #[]
  resolved := Array.replicate 131 none
  statics := none }

def pool5 : Array CpInfo := pool [(1, .class_ 2), (0, u "java/lang/constant/Constable"), (0, .class_ 4), (0, u "java/lang/Object")] 6

/-- java/lang/constant/Constable -/
def k5 : Class := { plain "java/lang/constant/Constable" (some 0) with
  accessFlags := 1537
  interfaces := #[]
  cf := some (fileOf pool5 1 #[] #[] 1537 3 #[] #[])
  fields := #[]
  methods := #[]
  instanceTypes := #[]
  staticTypes := #[]
  resolved := Array.replicate 11 none
  statics := none }

def pool6 : Array CpInfo := pool [(1, .class_ 2), (0, u "java/lang/constant/ConstantDesc"), (0, .class_ 4), (0, u "java/lang/Object")] 32

/-- java/lang/constant/ConstantDesc -/
def k6 : Class := { plain "java/lang/constant/ConstantDesc" (some 0) with
  accessFlags := 1537
  interfaces := #[]
  cf := some (fileOf pool6 1 #[] #[] 1537 3 #[] #[])
  fields := #[]
  methods := #[]
  instanceTypes := #[]
  staticTypes := #[]
  resolved := Array.replicate 37 none
  statics := none }

def pool7 : Array CpInfo := pool [(1, .methodref 2 3), (0, .class_ 4), (0, .nameAndType 5 6), (0, u "java/lang/Object"), (0, u "<init>"), (0, u "()V"), (0, .string 8), (0, u ""), (0, .fieldref 10 11), (0, .class_ 12), (0, .nameAndType 13 14), (0, u "java/lang/String"), (0, u "value"), (0, u "[B"), (0, .fieldref 10 16), (0, .nameAndType 17 18), (0, u "coder"), (0, u "B"), (2, u "hash"), (0, u "I"), (2, u "hashIsZero"), (0, u "Z"), (0, .methodref 10 28), (0, .nameAndType 5 29), (0, u "([CIILjava/lang/Void;)V"), (8, .fieldref 10 39), (0, .nameAndType 40 26), (0, u "COMPACT_STRINGS"), (12, u "toBytes"), (53, .class_ 109), (1, u "java/lang/StringLatin1"), (99, .methodref 10 210), (0, .nameAndType 5 211), (0, u "([BB)V"), (157, u "(C)Z"), (205, .class_ 576), (0, u "java/lang/CharSequence"), (22, u "CASE_INSENSITIVE_ORDER"), (0, u "Ljava/util/Comparator;"), (181, u "valueOf"), (0, u "(C)Ljava/lang/String;"), (226, u "([C)V"), (4, .methodref 107 1016), (0, .nameAndType 1017 369), (0, u "canEncode"), (0, .methodref 107 1019), (0, .nameAndType 53 1020), (0, u "(C)[B"), (80, u "serialPersistentFields"), (0, u "[Ljava/io/ObjectStreamField;"), (0, .class_ 1104), (0, u "java/lang/String$CaseInsensitiveComparator"), (1, .class_ 1107), (0, u "java/io/Serializable"), (0, .class_ 1109), (0, u "java/lang/Comparable"), (0, .class_ 1111), (0, u "java/lang/constant/Constable"), (0, .class_ 1113), (0, u "java/lang/constant/ConstantDesc"), (2, u "serialVersionUID"), (0, u "J"), (3, u "REPL"), (0, u "C"), (2, u "LATIN1"), (1, u "UTF16")] 323

def k7m0 : Method := { name := "<init>", desc := "()V", sig := { parameters := [], returnType := none }, accessFlags := 1, code := none }
def k7c1 : Code := { maxStack := 5, maxLocals := 2, code := jdk_42_method_3_code, exceptionTable := #[], attributes := #[] }
def k7m1 : Method := { name := "<init>", desc := "([C)V", sig := { parameters := [(.array .char)], returnType := none }, accessFlags := 1, code := some k7c1 }
def k7c2 : Code := { maxStack := 4, maxLocals := 1, code := jdk_42_method_139_code, exceptionTable := #[], attributes := #[] }
def k7m2 : Method := { name := "valueOf", desc := "(C)Ljava/lang/String;", sig := { parameters := [.char], returnType := some (.object "java/lang/String") }, accessFlags := 9, code := some k7c2 }
def k7c3 : Code := { maxStack := 4, maxLocals := 6, code := jdk_42_method_149_code, exceptionTable := #[], attributes := #[] }
def k7m3 : Method := { name := "<init>", desc := "([CIILjava/lang/Void;)V", sig := { parameters := [(.array .char), .int, .int, (.object "java/lang/Void")], returnType := none }, accessFlags := 2, code := some k7c3 }
def k7c4 : Code := { maxStack := 2, maxLocals := 3, code := jdk_42_method_151_code, exceptionTable := #[], attributes := #[] }
def k7m4 : Method := { name := "<init>", desc := "([BB)V", sig := { parameters := [(.array .byte), .byte], returnType := none }, accessFlags := 0, code := some k7c4 }
/-- java/lang/String -/
def k7 : Class := { plain "java/lang/String" (some 0) with
  accessFlags := 49
  interfaces := #[2, 3, 4, 5, 6]
  cf := some (fileOf pool7 10 #[.nestMembers #[1103]] #[{ accessFlags := 1, nameIndex := 5, descriptorIndex := 6, attributes := #[] }, { accessFlags := 1, nameIndex := 5, descriptorIndex := 1010, attributes := #[] }, { accessFlags := 9, nameIndex := 782, descriptorIndex := 783, attributes := #[] }, { accessFlags := 2, nameIndex := 5, descriptorIndex := 29, attributes := #[] }, { accessFlags := 0, nameIndex := 5, descriptorIndex := 211, attributes := #[] }] 49 2 #[1106, 1108, 575, 1110, 1112] #[{ accessFlags := 18, nameIndex := 13, descriptorIndex := 14, attributes := #[] }, { accessFlags := 18, nameIndex := 17, descriptorIndex := 18, attributes := #[] }, { accessFlags := 2, nameIndex := 21, descriptorIndex := 22, attributes := #[] }, { accessFlags := 2, nameIndex := 25, descriptorIndex := 26, attributes := #[] }, { accessFlags := 26, nameIndex := 1116, descriptorIndex := 1117, attributes := #[] }, { accessFlags := 24, nameIndex := 40, descriptorIndex := 26, attributes := #[] }, { accessFlags := 26, nameIndex := 1101, descriptorIndex := 1102, attributes := #[] }, { accessFlags := 26, nameIndex := 1121, descriptorIndex := 1122, attributes := #[] }, { accessFlags := 25, nameIndex := 599, descriptorIndex := 600, attributes := #[] }, { accessFlags := 24, nameIndex := 1125, descriptorIndex := 18, attributes := #[] }, { accessFlags := 24, nameIndex := 1127, descriptorIndex := 18, attributes := #[] }])
  fields := #[{ name := "value", type := (.array .byte), accessFlags := 18, slot := 0, constantValue := 0 }, { name := "coder", type := .byte, accessFlags := 18, slot := 1, constantValue := 0 }, { name := "hash", type := .int, accessFlags := 2, slot := 2, constantValue := 0 }, { name := "hashIsZero", type := .boolean, accessFlags := 2, slot := 3, constantValue := 0 }, { name := "serialVersionUID", type := .long, accessFlags := 26, slot := 0, constantValue := 0 }, { name := "COMPACT_STRINGS", type := .boolean, accessFlags := 24, slot := 1, constantValue := 0 }, { name := "serialPersistentFields", type := (.array (.object "java/io/ObjectStreamField")), accessFlags := 26, slot := 2, constantValue := 0 }, { name := "REPL", type := .char, accessFlags := 26, slot := 3, constantValue := 0 }, { name := "CASE_INSENSITIVE_ORDER", type := (.object "java/util/Comparator"), accessFlags := 25, slot := 4, constantValue := 0 }, { name := "LATIN1", type := .byte, accessFlags := 24, slot := 5, constantValue := 0 }, { name := "UTF16", type := .byte, accessFlags := 24, slot := 6, constantValue := 0 }]
  methods := #[k7m0, k7m1, k7m2, k7m3, k7m4]
  instanceTypes := #[(.array .byte), .byte, .int, .boolean]
  staticTypes := #[.long, .boolean, (.array (.object "java/io/ObjectStreamField")), .char, (.object "java/util/Comparator"), .byte, .byte]
  resolved := Array.replicate 1451 none
  statics := some 0 }

def pool8 : Array CpInfo := pool [(4, .class_ 6), (1, u "java/lang/Object"), (0, u "<init>"), (0, u "()V"), (5, .class_ 16), (1, u "java/lang/StringLatin1"), (73, u "canEncode"), (14, u "(C)Z"), (15, u "$assertionsDisabled"), (0, u "Z"), (98, .class_ 223), (1, u "java/lang/StringLatin1$LinesSpliterator"), (156, u "toBytes"), (1, u "(C)[B"), (7, .class_ 391), (0, u "java/lang/StringLatin1$CharsSpliterator")] 3

def k8m0 : Method := { name := "<init>", desc := "()V", sig := { parameters := [], returnType := none }, accessFlags := 0, code := none }
def k8c1 : Code := { maxStack := 2, maxLocals := 1, code := jdk_43_method_3_code, exceptionTable := #[], attributes := #[] }
def k8m1 : Method := { name := "canEncode", desc := "(C)Z", sig := { parameters := [.char], returnType := some .boolean }, accessFlags := 9, code := some k8c1 }
def k8c2 : Code := { maxStack := 4, maxLocals := 1, code := jdk_43_method_46_code, exceptionTable := #[], attributes := #[] }
def k8m2 : Method := { name := "toBytes", desc := "(C)[B", sig := { parameters := [.char], returnType := some (.array .byte) }, accessFlags := 9, code := some k8c2 }
/-- java/lang/StringLatin1 -/
def k8 : Class := { plain "java/lang/StringLatin1" (some 0) with
  accessFlags := 48
  interfaces := #[]
  cf := some (fileOf pool8 14 #[.nestMembers #[390, 221]] #[{ accessFlags := 0, nameIndex := 7, descriptorIndex := 8, attributes := #[] }, { accessFlags := 9, nameIndex := 90, descriptorIndex := 105, attributes := #[] }, { accessFlags := 9, nameIndex := 380, descriptorIndex := 382, attributes := #[] }] 48 4 #[] #[{ accessFlags := 4120, nameIndex := 121, descriptorIndex := 122, attributes := #[] }])
  fields := #[{ name := "$assertionsDisabled", type := .boolean, accessFlags := 4120, slot := 0, constantValue := 0 }]
  methods := #[k8m0, k8m1, k8m2]
  instanceTypes := #[]
  staticTypes := #[.boolean]
  resolved := Array.replicate 395 none
  statics := none }

def pool9 : Array CpInfo := pool [(1, .methodref 2 3), (0, .class_ 4), (0, .nameAndType 5 6), (0, u "java/lang/Object"), (0, u "<init>"), (0, u "()V"), (0, .class_ 8), (0, u "java/lang/Record")] 13

def k9c0 : Code := { maxStack := 1, maxLocals := 1, code := jdk_30_method_1_code, exceptionTable := #[], attributes := #[] }
def k9m0 : Method := { name := "<init>", desc := "()V", sig := { parameters := [], returnType := none }, accessFlags := 4, code := some k9c0 }
/-- java/lang/Record -/
def k9 : Class := { plain "java/lang/Record" (some 0) with
  accessFlags := 1057
  interfaces := #[]
  cf := some (fileOf pool9 7 #[] #[{ accessFlags := 4, nameIndex := 5, descriptorIndex := 6, attributes := #[] }] 1057 2 #[] #[])
  fields := #[]
  methods := #[k9m0]
  instanceTypes := #[]
  staticTypes := #[]
  resolved := Array.replicate 22 none
  statics := none }

def pool10 : Array CpInfo := pool [(1, .methodref 2 3), (0, .class_ 4), (0, .nameAndType 5 6), (0, u "java/lang/Record"), (0, u "<init>"), (0, u "()V"), (0, .fieldref 8 9), (0, .class_ 10), (0, .nameAndType 11 12), (0, u "com/example/rickyard/rickyard/HarvestState"), (0, u "baseUrl"), (0, u "Ljava/lang/String;"), (0, .fieldref 8 14), (0, .nameAndType 15 12), (0, u "prefix"), (0, .fieldref 8 17), (0, .nameAndType 18 12), (0, u "set"), (0, .fieldref 8 20), (0, .nameAndType 21 12), (0, u "harvested"), (0, .fieldref 8 23), (0, .nameAndType 24 12), (0, u "started"), (0, .fieldref 8 26), (0, .nameAndType 27 12), (0, u "from"), (0, .fieldref 8 29), (0, .nameAndType 30 12), (0, u "token"), (0, .methodref 8 32), (0, .nameAndType 5 33), (0, u "(Ljava/lang/String;Ljava/lang/String;Ljava/lang/String;Ljava/lang/String;Ljava/lang/String;Ljava/lang/String;Ljava/lang/String;)V"), (15, u "none"), (0, u "(Ljava/lang/String;Ljava/lang/String;Ljava/lang/String;)Lcom/example/rickyard/rickyard/HarvestState;"), (0, u "inProgress"), (0, u "()Z"), (1, u "begin"), (0, u "(Ljava/lang/String;)Lcom/example/rickyard/rickyard/HarvestState;"), (0, u "stored"), (0, u "(Ljava/lang/String;Ljava/lang/String;)Lcom/example/rickyard/rickyard/HarvestState;")] 31

def k10c0 : Code := { maxStack := 2, maxLocals := 8, code := prog_1_method_1_code, exceptionTable := #[], attributes := #[] }
def k10m0 : Method := { name := "<init>", desc := "(Ljava/lang/String;Ljava/lang/String;Ljava/lang/String;Ljava/lang/String;Ljava/lang/String;Ljava/lang/String;Ljava/lang/String;)V", sig := { parameters := [(.object "java/lang/String"), (.object "java/lang/String"), (.object "java/lang/String"), (.object "java/lang/String"), (.object "java/lang/String"), (.object "java/lang/String"), (.object "java/lang/String")], returnType := none }, accessFlags := 0, code := some k10c0 }
def k10c1 : Code := { maxStack := 9, maxLocals := 3, code := prog_1_method_2_code, exceptionTable := #[], attributes := #[] }
def k10m1 : Method := { name := "none", desc := "(Ljava/lang/String;Ljava/lang/String;Ljava/lang/String;)Lcom/example/rickyard/rickyard/HarvestState;", sig := { parameters := [(.object "java/lang/String"), (.object "java/lang/String"), (.object "java/lang/String")], returnType := some (.object "com/example/rickyard/rickyard/HarvestState") }, accessFlags := 8, code := some k10c1 }
def k10c2 : Code := { maxStack := 1, maxLocals := 1, code := prog_1_method_3_code, exceptionTable := #[], attributes := #[] }
def k10m2 : Method := { name := "inProgress", desc := "()Z", sig := { parameters := [], returnType := some .boolean }, accessFlags := 0, code := some k10c2 }
def k10c3 : Code := { maxStack := 9, maxLocals := 2, code := prog_1_method_4_code, exceptionTable := #[], attributes := #[] }
def k10m3 : Method := { name := "begin", desc := "(Ljava/lang/String;)Lcom/example/rickyard/rickyard/HarvestState;", sig := { parameters := [(.object "java/lang/String")], returnType := some (.object "com/example/rickyard/rickyard/HarvestState") }, accessFlags := 0, code := some k10c3 }
def k10c4 : Code := { maxStack := 9, maxLocals := 4, code := prog_1_method_5_code, exceptionTable := #[], attributes := #[] }
def k10m4 : Method := { name := "stored", desc := "(Ljava/lang/String;Ljava/lang/String;)Lcom/example/rickyard/rickyard/HarvestState;", sig := { parameters := [(.object "java/lang/String"), (.object "java/lang/String")], returnType := some (.object "com/example/rickyard/rickyard/HarvestState") }, accessFlags := 0, code := some k10c4 }
/-- com/example/rickyard/rickyard/HarvestState -/
def k10 : Class := { plain "com/example/rickyard/rickyard/HarvestState" (some 9) with
  accessFlags := 48
  interfaces := #[]
  cf := some (fileOf pool10 8 #[] #[{ accessFlags := 0, nameIndex := 5, descriptorIndex := 33, attributes := #[] }, { accessFlags := 8, nameIndex := 49, descriptorIndex := 50, attributes := #[] }, { accessFlags := 0, nameIndex := 51, descriptorIndex := 52, attributes := #[] }, { accessFlags := 0, nameIndex := 54, descriptorIndex := 55, attributes := #[] }, { accessFlags := 0, nameIndex := 56, descriptorIndex := 57, attributes := #[] }] 48 2 #[] #[{ accessFlags := 18, nameIndex := 11, descriptorIndex := 12, attributes := #[] }, { accessFlags := 18, nameIndex := 15, descriptorIndex := 12, attributes := #[] }, { accessFlags := 18, nameIndex := 18, descriptorIndex := 12, attributes := #[] }, { accessFlags := 18, nameIndex := 21, descriptorIndex := 12, attributes := #[] }, { accessFlags := 18, nameIndex := 24, descriptorIndex := 12, attributes := #[] }, { accessFlags := 18, nameIndex := 27, descriptorIndex := 12, attributes := #[] }, { accessFlags := 18, nameIndex := 30, descriptorIndex := 12, attributes := #[] }])
  fields := #[{ name := "baseUrl", type := (.object "java/lang/String"), accessFlags := 18, slot := 0, constantValue := 0 }, { name := "prefix", type := (.object "java/lang/String"), accessFlags := 18, slot := 1, constantValue := 0 }, { name := "set", type := (.object "java/lang/String"), accessFlags := 18, slot := 2, constantValue := 0 }, { name := "harvested", type := (.object "java/lang/String"), accessFlags := 18, slot := 3, constantValue := 0 }, { name := "started", type := (.object "java/lang/String"), accessFlags := 18, slot := 4, constantValue := 0 }, { name := "from", type := (.object "java/lang/String"), accessFlags := 18, slot := 5, constantValue := 0 }, { name := "token", type := (.object "java/lang/String"), accessFlags := 18, slot := 6, constantValue := 0 }]
  methods := #[k10m0, k10m1, k10m2, k10m3, k10m4]
  instanceTypes := #[(.object "java/lang/String"), (.object "java/lang/String"), (.object "java/lang/String"), (.object "java/lang/String"), (.object "java/lang/String"), (.object "java/lang/String"), (.object "java/lang/String")]
  staticTypes := #[]
  resolved := Array.replicate 89 none
  statics := none }

def pool11 : Array CpInfo := pool [(2, .class_ 4), (1, u "java/lang/Object"), (0, u "<init>"), (0, u "()V"), (17, .class_ 26), (1, u "jdk/internal/util/Preconditions"), (28, .class_ 56), (0, u "jdk/internal/util/Preconditions$4"), (57, .class_ 115), (0, u "jdk/internal/util/Preconditions$1"), (7, u "SIOOBE_FORMATTER"), (0, u "Ljava/util/function/BiFunction;"), (0, .class_ 126), (0, u "jdk/internal/util/Preconditions$2"), (3, u "AIOOBE_FORMATTER"), (0, .class_ 132), (0, u "jdk/internal/util/Preconditions$3"), (3, u "IOOBE_FORMATTER")] 57

def k11m0 : Method := { name := "<init>", desc := "()V", sig := { parameters := [], returnType := none }, accessFlags := 1, code := none }
/-- jdk/internal/util/Preconditions -/
def k11 : Class := { plain "jdk/internal/util/Preconditions" (some 0) with
  accessFlags := 33
  interfaces := #[]
  cf := some (fileOf pool11 24 #[.nestMembers #[55, 131, 125, 114]] #[{ accessFlags := 1, nameIndex := 5, descriptorIndex := 6, attributes := #[] }] 33 2 #[] #[{ accessFlags := 25, nameIndex := 123, descriptorIndex := 124, attributes := #[] }, { accessFlags := 25, nameIndex := 130, descriptorIndex := 124, attributes := #[] }, { accessFlags := 25, nameIndex := 136, descriptorIndex := 124, attributes := #[] }])
  fields := #[{ name := "SIOOBE_FORMATTER", type := (.object "java/util/function/BiFunction"), accessFlags := 25, slot := 0, constantValue := 0 }, { name := "AIOOBE_FORMATTER", type := (.object "java/util/function/BiFunction"), accessFlags := 25, slot := 1, constantValue := 0 }, { name := "IOOBE_FORMATTER", type := (.object "java/util/function/BiFunction"), accessFlags := 25, slot := 2, constantValue := 0 }]
  methods := #[k11m0]
  instanceTypes := #[]
  staticTypes := #[(.object "java/util/function/BiFunction"), (.object "java/util/function/BiFunction"), (.object "java/util/function/BiFunction")]
  resolved := Array.replicate 194 none
  statics := some 1 }

def pool12 : Array CpInfo := pool [(9, u "<init>"), (6, .class_ 18), (1, u "java/lang/Object"), (0, u "()V"), (1, .class_ 23), (1, u "jdk/internal/util/ArraysSupport"), (0, u "LOG2_ARRAY_LONG_INDEX_SCALE"), (0, u "I"), (2, u "U"), (0, u "Ljdk/internal/misc/Unsafe;"), (8, u "BIG_ENDIAN"), (0, u "Z"), (8, u "LOG2_BYTE_BIT_SIZE"), (4, u "LOG2_ARRAY_INT_INDEX_SCALE"), (54, u "JLA"), (0, u "Ljdk/internal/access/JavaLangAccess;"), (11, u "LOG2_ARRAY_BOOLEAN_INDEX_SCALE"), (9, u "LOG2_ARRAY_BYTE_INDEX_SCALE"), (5, u "LOG2_ARRAY_CHAR_INDEX_SCALE"), (5, u "LOG2_ARRAY_SHORT_INDEX_SCALE"), (18, u "LOG2_ARRAY_FLOAT_INDEX_SCALE"), (24, u "LOG2_ARRAY_DOUBLE_INDEX_SCALE"), (89, u "T_BOOLEAN"), (2, u "T_CHAR"), (1, u "T_FLOAT"), (1, u "T_DOUBLE"), (1, u "T_BYTE"), (1, u "T_SHORT"), (1, u "T_INT"), (1, u "T_LONG"), (1, u "SOFT_MAX_ARRAY_LENGTH")] 83

def k12m0 : Method := { name := "<init>", desc := "()V", sig := { parameters := [], returnType := none }, accessFlags := 2, code := none }
/-- jdk/internal/util/ArraysSupport -/
def k12 : Class := { plain "jdk/internal/util/ArraysSupport" (some 0) with
  accessFlags := 33
  interfaces := #[]
  cf := some (fileOf pool12 21 #[] #[{ accessFlags := 2, nameIndex := 9, descriptorIndex := 19, attributes := #[] }] 33 16 #[] #[{ accessFlags := 24, nameIndex := 28, descriptorIndex := 29, attributes := #[] }, { accessFlags := 26, nameIndex := 38, descriptorIndex := 39, attributes := #[] }, { accessFlags := 25, nameIndex := 121, descriptorIndex := 25, attributes := #[] }, { accessFlags := 25, nameIndex := 131, descriptorIndex := 25, attributes := #[] }, { accessFlags := 25, nameIndex := 137, descriptorIndex := 25, attributes := #[] }, { accessFlags := 25, nameIndex := 143, descriptorIndex := 25, attributes := #[] }, { accessFlags := 25, nameIndex := 53, descriptorIndex := 25, attributes := #[] }, { accessFlags := 25, nameIndex := 24, descriptorIndex := 25, attributes := #[] }, { accessFlags := 25, nameIndex := 162, descriptorIndex := 25, attributes := #[] }, { accessFlags := 25, nameIndex := 187, descriptorIndex := 25, attributes := #[] }, { accessFlags := 26, nameIndex := 48, descriptorIndex := 25, attributes := #[] }, { accessFlags := 25, nameIndex := 277, descriptorIndex := 25, attributes := #[] }, { accessFlags := 25, nameIndex := 280, descriptorIndex := 25, attributes := #[] }, { accessFlags := 25, nameIndex := 282, descriptorIndex := 25, attributes := #[] }, { accessFlags := 25, nameIndex := 284, descriptorIndex := 25, attributes := #[] }, { accessFlags := 25, nameIndex := 286, descriptorIndex := 25, attributes := #[] }, { accessFlags := 25, nameIndex := 288, descriptorIndex := 25, attributes := #[] }, { accessFlags := 25, nameIndex := 290, descriptorIndex := 25, attributes := #[] }, { accessFlags := 25, nameIndex := 292, descriptorIndex := 25, attributes := #[] }, { accessFlags := 26, nameIndex := 108, descriptorIndex := 109, attributes := #[] }, { accessFlags := 25, nameIndex := 294, descriptorIndex := 25, attributes := #[] }])
  fields := #[{ name := "U", type := (.object "jdk/internal/misc/Unsafe"), accessFlags := 24, slot := 0, constantValue := 0 }, { name := "BIG_ENDIAN", type := .boolean, accessFlags := 26, slot := 1, constantValue := 0 }, { name := "LOG2_ARRAY_BOOLEAN_INDEX_SCALE", type := .int, accessFlags := 25, slot := 2, constantValue := 0 }, { name := "LOG2_ARRAY_BYTE_INDEX_SCALE", type := .int, accessFlags := 25, slot := 3, constantValue := 0 }, { name := "LOG2_ARRAY_CHAR_INDEX_SCALE", type := .int, accessFlags := 25, slot := 4, constantValue := 0 }, { name := "LOG2_ARRAY_SHORT_INDEX_SCALE", type := .int, accessFlags := 25, slot := 5, constantValue := 0 }, { name := "LOG2_ARRAY_INT_INDEX_SCALE", type := .int, accessFlags := 25, slot := 6, constantValue := 0 }, { name := "LOG2_ARRAY_LONG_INDEX_SCALE", type := .int, accessFlags := 25, slot := 7, constantValue := 0 }, { name := "LOG2_ARRAY_FLOAT_INDEX_SCALE", type := .int, accessFlags := 25, slot := 8, constantValue := 0 }, { name := "LOG2_ARRAY_DOUBLE_INDEX_SCALE", type := .int, accessFlags := 25, slot := 9, constantValue := 0 }, { name := "LOG2_BYTE_BIT_SIZE", type := .int, accessFlags := 26, slot := 10, constantValue := 0 }, { name := "T_BOOLEAN", type := .int, accessFlags := 25, slot := 11, constantValue := 0 }, { name := "T_CHAR", type := .int, accessFlags := 25, slot := 12, constantValue := 0 }, { name := "T_FLOAT", type := .int, accessFlags := 25, slot := 13, constantValue := 0 }, { name := "T_DOUBLE", type := .int, accessFlags := 25, slot := 14, constantValue := 0 }, { name := "T_BYTE", type := .int, accessFlags := 25, slot := 15, constantValue := 0 }, { name := "T_SHORT", type := .int, accessFlags := 25, slot := 16, constantValue := 0 }, { name := "T_INT", type := .int, accessFlags := 25, slot := 17, constantValue := 0 }, { name := "T_LONG", type := .int, accessFlags := 25, slot := 18, constantValue := 0 }, { name := "JLA", type := (.object "jdk/internal/access/JavaLangAccess"), accessFlags := 26, slot := 19, constantValue := 0 }, { name := "SOFT_MAX_ARRAY_LENGTH", type := .int, accessFlags := 25, slot := 20, constantValue := 0 }]
  methods := #[k12m0]
  instanceTypes := #[]
  staticTypes := #[(.object "jdk/internal/misc/Unsafe"), .boolean, .int, .int, .int, .int, .int, .int, .int, .int, .int, .int, .int, .int, .int, .int, .int, .int, .int, (.object "jdk/internal/access/JavaLangAccess"), .int]
  resolved := Array.replicate 378 none
  statics := none }

def pool13 : Array CpInfo := pool [(1, u "java/lang/Cloneable"), (0, .class_ 1), (0, u "java/lang/Object"), (0, .class_ 3)] 3

/-- java/lang/Cloneable -/
def k13 : Class := { plain "java/lang/Cloneable" (some 0) with
  accessFlags := 1537
  interfaces := #[]
  cf := some (fileOf pool13 2 #[] #[] 1537 4 #[] #[])
  fields := #[]
  methods := #[]
  instanceTypes := #[]
  staticTypes := #[]
  resolved := Array.replicate 8 none
  statics := none }

/-- the primitive byte -/
def k14 : Class := { plain "byte" none with kind := .primitive 'B', accessFlags := 0x411 }
/-- [B -/
def k15 : Class := { plain "[B" (some 0) with kind := .array 14 .byte, interfaces := #[13, 2], accessFlags := 1041 }

/-- the primitive char -/
def k16 : Class := { plain "char" none with kind := .primitive 'C', accessFlags := 0x411 }
/-- [C -/
def k17 : Class := { plain "[C" (some 0) with kind := .array 16 .char, interfaces := #[13, 2], accessFlags := 1041 }

/-- the primitive int -/
def k18 : Class := { plain "int" none with kind := .primitive 'I', accessFlags := 0x411 }
/-- [I -/
def k19 : Class := { plain "[I" (some 0) with kind := .array 18 .int, interfaces := #[13, 2], accessFlags := 1041 }

def heap : Heap := #[{ cls := 7, slots := #[.long 0, .int 1, .null, .int 0, .null, .int 0, .int 0], vm := .statics 7 },
  { cls := 11, slots := #[.null, .null, .null], vm := .statics 11 }]
def classes : Array Class := #[k0, k1, k2, k3, k4, k5, k6, k7, k8, k9, k10, k11, k12, k13, k14, k15, k16, k17, k18, k19]
def interned : List (Array UInt16 × Addr) := []
def slotsUsed : Nat := 10
def theMethod : MethodId := ⟨1, 2⟩
def args0 : Array Value := #[.int 5, .int 2, .int 1, .int 9]
def aboutOver (below : List Frame) : State where
  vm := { classes := classes, interned := interned.toArray }
  heap := heap
  slotsUsed := slotsUsed
  threads := #[{ frames := .invoking theMethod args0 :: below }]
def below0 : List Frame := [.native { method := ⟨0, 0⟩, args := #[] }]
def about1 : State := aboutOver below0
def p0 : Program := .bare "" "" ""
def e0 : Env := launch0.env 0 0 0
theorem w_frames : about1.frames = Frame.invoking theMethod args0 :: below0 := rfl
set_option maxRecDepth 65536 in
theorem w_args : argsFit about1.vm theMethod args0 = true := by decide +kernel
set_option maxRecDepth 65536 in
theorem w_heap : heapFits about1 = true := by decide +kernel
set_option maxRecDepth 65536 in
theorem w_runnable : about1.curStatus? = some .runnable := by decide +kernel
set_option maxRecDepth 65536 in
theorem w_alone : about1.alone = true := by decide +kernel
set_option maxRecDepth 65536 in
theorem w_named : about1.methodNamed? x = some theMethod := by decide +kernel
set_option maxRecDepth 65536 in
theorem w_hears : about1.hears theMethod below0 = true := by decide +kernel
set_option maxRecDepth 65536 in
theorem w_ripe : about1.ripe theMethod args0 below0 = true := by decide +kernel
theorem w_running : about1.status = .running := rfl
set_option maxRecDepth 65536 in
theorem w_room : about1.hasRoom e0.platform room_1 = true :=
  launch0.hasRoom_least _ room_1 (by decide +kernel) (by decide +kernel) (by decide +kernel) (by decide +kernel) (by decide +kernel) (by decide +kernel)
theorem allAtoms_all (ts : List Jvm.Cond) (a : Array Jvm.Value) (st : Jvm.State) : (allAtoms ts).before a st = ts.all (fun c => c.before a st) := by
  induction ts with
  | nil => rfl
  | cons c t ih =>
    show (Jvm.Cond.and c (allAtoms t)).before a st = _
    rw [Jvm.Cond.before_and, ih, List.all_cons]
def words1 : List Jvm.Cond := Jvm.Cond.code x code maxLocals ret :: tables_1
/-- a 'code' word, met by the world's own term for the bytes: nothing is compared byte by byte -/
theorem code_word {y : MethodName} {bytes : ByteArray} {mx : Nat} {rt : Option FieldType} {a : Array Value} {s : State} {m : MethodId} {meth : Method} {c : Code} (h1 : s.methodNamed? y = some m) (h2 : s.vm.method? m = some meth) (h3 : meth.code = some c) (h4 : c.code = bytes)
    (h5 : (c.maxLocals == mx && c.exceptionTable.isEmpty && decide (c.maxStack ≤ mostOperands) && decide (meth.sig.returnType = rt) && !meth.locks && decide (parseMethodDescriptor y.desc = some meth.sig)) = true) : (Jvm.Cond.code y bytes mx rt).before a s = true := by
  simp only [Bool.and_eq_true, beq_iff_eq, Bool.not_eq_true', decide_eq_true_eq] at h5
  obtain ⟨⟨⟨⟨⟨g1, g2⟩, g3⟩, g4⟩, g5⟩, g6⟩ := h5
  simp [Cond.before, Cond.holds, Cond.value, h1, h2, h3, h4, g1, g2, g3, g4, g5, g6]
def isCode : Jvm.Cond → Bool
  | .code _ _ _ _ => true
  | _ => false
theorem all_split {L : List Jvm.Cond} {P : Jvm.Cond → Bool} (h1 : L.all (fun c => isCode c || P c) = true) (h2 : ∀ c ∈ L.filter isCode, P c = true) : L.all P = true := by
  refine List.all_eq_true.mpr fun c hc => ?_
  have h := List.all_eq_true.mp h1 c hc
  rcases Bool.eq_false_or_eq_true (isCode c) with hi | hi
  · exact h2 c (List.mem_filter.mpr ⟨hc, hi⟩)
  · simpa [hi] using h
set_option maxRecDepth 65536 in
theorem w_c0 : (Jvm.Cond.code x code maxLocals ret).before args0 about1 = true := code_word (m := ⟨1, 2⟩) (meth := k1m2) (c := k1c2) (by decide +kernel) rfl rfl rfl (by decide +kernel)
set_option maxRecDepth 65536 in
theorem w_c1 : (Jvm.Cond.code ({ cls := "com/example/rickyard/rickyard/HarvestStateInProgressPinLaw", name := "draw", desc := "(I)Ljava/lang/String;" } : Jvm.MethodName) method_2_code (1 : Nat) (Option.some (Jvm.ClassFile.FieldType.object "java/lang/String"))).before args0 about1 = true := code_word (m := ⟨1, 1⟩) (meth := k1m1) (c := k1c1) (by decide +kernel) rfl rfl rfl (by decide +kernel)
set_option maxRecDepth 65536 in
theorem w_c2 : (Jvm.Cond.code ({ cls := "java/lang/String", name := "<init>", desc := "([C)V" } : Jvm.MethodName) jdk_42_method_3_code (2 : Nat) (Option.none : Option Jvm.ClassFile.FieldType)).before args0 about1 = true := code_word (m := ⟨7, 1⟩) (meth := k7m1) (c := k7c1) (by decide +kernel) rfl rfl rfl (by decide +kernel)
set_option maxRecDepth 65536 in
theorem w_c3 : (Jvm.Cond.code ({ cls := "java/lang/String", name := "<init>", desc := "([CIILjava/lang/Void;)V" } : Jvm.MethodName) jdk_42_method_149_code (6 : Nat) (Option.none : Option Jvm.ClassFile.FieldType)).before args0 about1 = true := code_word (m := ⟨7, 3⟩) (meth := k7m3) (c := k7c3) (by decide +kernel) rfl rfl rfl (by decide +kernel)
set_option maxRecDepth 65536 in
theorem w_c4 : (Jvm.Cond.code ({ cls := "java/lang/Object", name := "<init>", desc := "()V" } : Jvm.MethodName) object_method_1_code (1 : Nat) (Option.none : Option Jvm.ClassFile.FieldType)).before args0 about1 = true := code_word (m := ⟨0, 0⟩) (meth := k0m0) (c := k0c0) (by decide +kernel) rfl rfl rfl (by decide +kernel)
set_option maxRecDepth 65536 in
theorem w_c5 : (Jvm.Cond.code ({ cls := "java/lang/String", name := "valueOf", desc := "(C)Ljava/lang/String;" } : Jvm.MethodName) jdk_42_method_139_code (1 : Nat) (Option.some (Jvm.ClassFile.FieldType.object "java/lang/String"))).before args0 about1 = true := code_word (m := ⟨7, 2⟩) (meth := k7m2) (c := k7c2) (by decide +kernel) rfl rfl rfl (by decide +kernel)
set_option maxRecDepth 65536 in
theorem w_c6 : (Jvm.Cond.code ({ cls := "java/lang/StringLatin1", name := "canEncode", desc := "(C)Z" } : Jvm.MethodName) jdk_43_method_3_code (1 : Nat) (Option.some Jvm.ClassFile.FieldType.boolean)).before args0 about1 = true := code_word (m := ⟨8, 1⟩) (meth := k8m1) (c := k8c1) (by decide +kernel) rfl rfl rfl (by decide +kernel)
set_option maxRecDepth 65536 in
theorem w_c7 : (Jvm.Cond.code ({ cls := "java/lang/StringLatin1", name := "toBytes", desc := "(C)[B" } : Jvm.MethodName) jdk_43_method_46_code (1 : Nat) (Option.some (Jvm.ClassFile.FieldType.array Jvm.ClassFile.FieldType.byte))).before args0 about1 = true := code_word (m := ⟨8, 2⟩) (meth := k8m2) (c := k8c2) (by decide +kernel) rfl rfl rfl (by decide +kernel)
set_option maxRecDepth 65536 in
theorem w_c8 : (Jvm.Cond.code ({ cls := "java/lang/String", name := "<init>", desc := "([BB)V" } : Jvm.MethodName) jdk_42_method_151_code (3 : Nat) (Option.none : Option Jvm.ClassFile.FieldType)).before args0 about1 = true := code_word (m := ⟨7, 4⟩) (meth := k7m4) (c := k7c4) (by decide +kernel) rfl rfl rfl (by decide +kernel)
set_option maxRecDepth 65536 in
theorem w_c9 : (Jvm.Cond.code ({ cls := "com/example/rickyard/rickyard/HarvestState", name := "<init>", desc := "(Ljava/lang/String;Ljava/lang/String;Ljava/lang/String;Ljava/lang/String;Ljava/lang/String;Ljava/lang/String;Ljava/lang/String;)V" } : Jvm.MethodName) prog_1_method_1_code (8 : Nat) (Option.none : Option Jvm.ClassFile.FieldType)).before args0 about1 = true := code_word (m := ⟨10, 0⟩) (meth := k10m0) (c := k10c0) (by decide +kernel) rfl rfl rfl (by decide +kernel)
set_option maxRecDepth 65536 in
theorem w_c10 : (Jvm.Cond.code ({ cls := "java/lang/Record", name := "<init>", desc := "()V" } : Jvm.MethodName) jdk_30_method_1_code (1 : Nat) (Option.none : Option Jvm.ClassFile.FieldType)).before args0 about1 = true := code_word (m := ⟨9, 0⟩) (meth := k9m0) (c := k9c0) (by decide +kernel) rfl rfl rfl (by decide +kernel)
set_option maxRecDepth 65536 in
theorem w_c11 : (Jvm.Cond.code ({ cls := "com/example/rickyard/rickyard/HarvestState", name := "inProgress", desc := "()Z" } : Jvm.MethodName) prog_1_method_3_code (1 : Nat) (Option.some Jvm.ClassFile.FieldType.boolean)).before args0 about1 = true := code_word (m := ⟨10, 2⟩) (meth := k10m2) (c := k10c2) (by decide +kernel) rfl rfl rfl (by decide +kernel)
set_option maxRecDepth 65536 in
theorem w_c12 : (Jvm.Cond.code ({ cls := "com/example/rickyard/rickyard/HarvestState", name := "stored", desc := "(Ljava/lang/String;Ljava/lang/String;)Lcom/example/rickyard/rickyard/HarvestState;" } : Jvm.MethodName) prog_1_method_5_code (4 : Nat) (Option.some (Jvm.ClassFile.FieldType.object "com/example/rickyard/rickyard/HarvestState"))).before args0 about1 = true := code_word (m := ⟨10, 4⟩) (meth := k10m4) (c := k10c4) (by decide +kernel) rfl rfl rfl (by decide +kernel)
set_option maxRecDepth 65536 in
theorem w_c13 : (Jvm.Cond.code ({ cls := "com/example/rickyard/rickyard/HarvestState", name := "begin", desc := "(Ljava/lang/String;)Lcom/example/rickyard/rickyard/HarvestState;" } : Jvm.MethodName) prog_1_method_4_code (2 : Nat) (Option.some (Jvm.ClassFile.FieldType.object "com/example/rickyard/rickyard/HarvestState"))).before args0 about1 = true := code_word (m := ⟨10, 3⟩) (meth := k10m3) (c := k10c3) (by decide +kernel) rfl rfl rfl (by decide +kernel)
set_option maxRecDepth 65536 in
theorem w_c14 : (Jvm.Cond.code ({ cls := "com/example/rickyard/rickyard/HarvestState", name := "none", desc := "(Ljava/lang/String;Ljava/lang/String;Ljava/lang/String;)Lcom/example/rickyard/rickyard/HarvestState;" } : Jvm.MethodName) prog_1_method_2_code (3 : Nat) (Option.some (Jvm.ClassFile.FieldType.object "com/example/rickyard/rickyard/HarvestState"))).before args0 about1 = true := code_word (m := ⟨10, 1⟩) (meth := k10m1) (c := k10c1) (by decide +kernel) rfl rfl rfl (by decide +kernel)
def codes1 : List Jvm.Cond := [Jvm.Cond.code x code maxLocals ret, Jvm.Cond.code ({ cls := "com/example/rickyard/rickyard/HarvestStateInProgressPinLaw", name := "draw", desc := "(I)Ljava/lang/String;" } : Jvm.MethodName) method_2_code (1 : Nat) (Option.some (Jvm.ClassFile.FieldType.object "java/lang/String")), Jvm.Cond.code ({ cls := "java/lang/String", name := "<init>", desc := "([C)V" } : Jvm.MethodName) jdk_42_method_3_code (2 : Nat) (Option.none : Option Jvm.ClassFile.FieldType), Jvm.Cond.code ({ cls := "java/lang/String", name := "<init>", desc := "([CIILjava/lang/Void;)V" } : Jvm.MethodName) jdk_42_method_149_code (6 : Nat) (Option.none : Option Jvm.ClassFile.FieldType), Jvm.Cond.code ({ cls := "java/lang/Object", name := "<init>", desc := "()V" } : Jvm.MethodName) object_method_1_code (1 : Nat) (Option.none : Option Jvm.ClassFile.FieldType), Jvm.Cond.code ({ cls := "java/lang/String", name := "valueOf", desc := "(C)Ljava/lang/String;" } : Jvm.MethodName) jdk_42_method_139_code (1 : Nat) (Option.some (Jvm.ClassFile.FieldType.object "java/lang/String")), Jvm.Cond.code ({ cls := "java/lang/StringLatin1", name := "canEncode", desc := "(C)Z" } : Jvm.MethodName) jdk_43_method_3_code (1 : Nat) (Option.some Jvm.ClassFile.FieldType.boolean), Jvm.Cond.code ({ cls := "java/lang/StringLatin1", name := "toBytes", desc := "(C)[B" } : Jvm.MethodName) jdk_43_method_46_code (1 : Nat) (Option.some (Jvm.ClassFile.FieldType.array Jvm.ClassFile.FieldType.byte)), Jvm.Cond.code ({ cls := "java/lang/String", name := "<init>", desc := "([BB)V" } : Jvm.MethodName) jdk_42_method_151_code (3 : Nat) (Option.none : Option Jvm.ClassFile.FieldType), Jvm.Cond.code ({ cls := "com/example/rickyard/rickyard/HarvestState", name := "<init>", desc := "(Ljava/lang/String;Ljava/lang/String;Ljava/lang/String;Ljava/lang/String;Ljava/lang/String;Ljava/lang/String;Ljava/lang/String;)V" } : Jvm.MethodName) prog_1_method_1_code (8 : Nat) (Option.none : Option Jvm.ClassFile.FieldType), Jvm.Cond.code ({ cls := "java/lang/Record", name := "<init>", desc := "()V" } : Jvm.MethodName) jdk_30_method_1_code (1 : Nat) (Option.none : Option Jvm.ClassFile.FieldType), Jvm.Cond.code ({ cls := "com/example/rickyard/rickyard/HarvestState", name := "inProgress", desc := "()Z" } : Jvm.MethodName) prog_1_method_3_code (1 : Nat) (Option.some Jvm.ClassFile.FieldType.boolean), Jvm.Cond.code ({ cls := "com/example/rickyard/rickyard/HarvestState", name := "stored", desc := "(Ljava/lang/String;Ljava/lang/String;)Lcom/example/rickyard/rickyard/HarvestState;" } : Jvm.MethodName) prog_1_method_5_code (4 : Nat) (Option.some (Jvm.ClassFile.FieldType.object "com/example/rickyard/rickyard/HarvestState")), Jvm.Cond.code ({ cls := "com/example/rickyard/rickyard/HarvestState", name := "begin", desc := "(Ljava/lang/String;)Lcom/example/rickyard/rickyard/HarvestState;" } : Jvm.MethodName) prog_1_method_4_code (2 : Nat) (Option.some (Jvm.ClassFile.FieldType.object "com/example/rickyard/rickyard/HarvestState")), Jvm.Cond.code ({ cls := "com/example/rickyard/rickyard/HarvestState", name := "none", desc := "(Ljava/lang/String;Ljava/lang/String;Ljava/lang/String;)Lcom/example/rickyard/rickyard/HarvestState;" } : Jvm.MethodName) prog_1_method_2_code (3 : Nat) (Option.some (Jvm.ClassFile.FieldType.object "com/example/rickyard/rickyard/HarvestState"))]
set_option maxRecDepth 65536 in
theorem codes_eq : words1.filter isCode = codes1 := rfl
theorem w_codes : ∀ c ∈ words1.filter isCode, c.before args0 about1 = true := by
  rw [codes_eq]
  intro c hc
  simp only [codes1, List.mem_cons, List.not_mem_nil, or_false] at hc
  rcases hc with rfl | rfl | rfl | rfl | rfl | rfl | rfl | rfl | rfl | rfl | rfl | rfl | rfl | rfl | rfl
  · exact w_c0
  · exact w_c1
  · exact w_c2
  · exact w_c3
  · exact w_c4
  · exact w_c5
  · exact w_c6
  · exact w_c7
  · exact w_c8
  · exact w_c9
  · exact w_c10
  · exact w_c11
  · exact w_c12
  · exact w_c13
  · exact w_c14
set_option maxRecDepth 65536 in
theorem w_t1 : (words1.take 24).all (fun c => isCode c || c.before args0 about1) = true := by decide +kernel
set_option maxRecDepth 65536 in
theorem w_t2 : ((words1.drop 24).take 24).all (fun c => isCode c || c.before args0 about1) = true := by decide +kernel
set_option maxRecDepth 65536 in
theorem w_t3 : (((words1.drop 24).drop 24).take 24).all (fun c => isCode c || c.before args0 about1) = true := by decide +kernel
set_option maxRecDepth 65536 in
theorem w_t4 : (((words1.drop 24).drop 24).drop 24).all (fun c => isCode c || c.before args0 about1) = true := by decide +kernel
theorem w_tables : (allAtoms (Jvm.Cond.code x code maxLocals ret :: tables_1)).before args0 about1 = true := by
  rw [allAtoms_all]
  show words1.all (fun c => c.before args0 about1) = true
  refine all_split ?_ w_codes
  rw [← List.take_append_drop 24 words1, List.all_append, w_t1, ← List.take_append_drop 24 (words1.drop 24), List.all_append, w_t2, ← List.take_append_drop 24 ((words1.drop 24).drop 24), List.all_append, w_t3, w_t4]
  rfl
set_option maxRecDepth 65536 in
theorem w_rest : rest_1_c.before args0 about1 = true := by decide +kernel
set_option maxRecDepth 65536 in
theorem w_case : (Jvm.Cond.and given_1 narrow_1).before args0 about1 = true := by decide +kernel
set_option maxRecDepth 65536 in
theorem w_consts : constsHeld consts_1 about1 := Jvm.Lit.constsHeldB_iff.mp (by decide +kernel)
theorem w_applies : (headSpec (Jvm.Cond.code x code maxLocals ret :: tables_1) room_1).applies x e0.platform about1 = true :=
  (Spec.applies_iff w_frames).mpr ⟨w_running, w_runnable, w_alone, w_named, w_hears, w_ripe, w_room, w_tables⟩
theorem atStart : AtStart classFile x code maxLocals ret World_1 tables_1 room_1 Calls_1 rest_1 Pre_1 launch0 p0 e0 about1 theMethod args0 below0 :=
  ⟨lists_1, trivial, launch0.admits_env _ _ _, launch0.least_env, fairChoices_fair.cas, fairChoices_fair.clock, w_frames, w_args, w_heap, w_applies, ⟨w_consts, trivial⟩, w_rest, w_case⟩
end start1
theorem witness_1 : WitnessClaimed_1 := ⟨start1.p0, start1.e0, start1.about1, start1.theMethod, start1.args0, start1.below0, start1.atStart⟩
end Jvm.Pilot.@@N@@
