import JvmDerived
import JvmDerived.Pilot.@@N@@Statement
import JvmDerived.Pilot.@@N@@Code
set_option linter.unusedVariables false
set_option linter.unusedSimpArgs false
namespace Jvm.RoadKit
open Sem ClassFile Op Lib Jvm.Stand Jvm.Free Jvm.LawKit
section New
variable {p : Program} {l : Launch} {e : Env} {R : Room} {s : State} {m : MethodId} {args : Array Value} {below : List Frame} {meth : Method} {c : Code} {T : State} {locs : List Loc} {cells slots : Nat}
theorem retI (X : Stand p l e R s m args below meth c T locs cells slots) (hx : p.tables.exec = Jvm.exec) {pc : Nat} {Ls : Array Slot} {z : Int32} {rest : List Value} (hret : meth.sig.returnType = some .int) (hd : decode c.code pc = .ok (.ireturn, 1)) {fs : List Frame}
    (hl : ∀ (f : JFrame) (acts : List Action), f.method = m → f.locked = none → f.entered = [] → (doReturn e (T.setTop f) acts (some (.int z))).1 = T.setFrames fs) : Steps p.tables e below (T.setTop (mkF m pc Ls (.int z :: rest))) (T.setFrames fs) := by
  have hm' : T.vm.method? m = some meth := X.method'
  have hn : narrow .int (.int z) = .int z := rfl
  show Steps p.tables e below (T.setTop { method := m, pc := pc, locals := Ls, stack := _ :: rest, locked := none }) _
  jvm_step X.here [X.here.top, hx, hd, hm', hret, hn]
  first | (intro acts; rw [hl _ acts rfl rfl rfl]) | rw [hl _ _ rfl rfl rfl]
  exact Steps.refl _
theorem retR (X : Stand p l e R s m args below meth c T locs cells slots) (hx : p.tables.exec = Jvm.exec) {pc : Nat} {Ls : Array Slot} {w : Value} {t : FieldType} {rest : List Value} (hret : meth.sig.returnType = some t) (hn : narrow t w = w) (ht : t.isReference = true) (hw : w.isRef = true) (hd : decode c.code pc = .ok (.areturn, 1)) {fs : List Frame}
    (hl : ∀ (f : JFrame) (acts : List Action), f.method = m → f.locked = none → f.entered = [] → (doReturn e (T.setTop f) acts (some w)).1 = T.setFrames fs) : Steps p.tables e below (T.setTop (mkF m pc Ls (w :: rest))) (T.setFrames fs) := by
  have hm' : T.vm.method? m = some meth := X.method'
  show Steps p.tables e below (T.setTop { method := m, pc := pc, locals := Ls, stack := _ :: rest, locked := none }) _
  jvm_step X.here [X.here.top, hx, hd, hm', hret, hn, hw]
  try (refine ⟨ht, ?_⟩)
  first | (intro acts; rw [hl _ acts rfl rfl rfl]) | rw [hl _ _ rfl rfl rfl]
  exact Steps.refl _
end New
end Jvm.RoadKit
namespace Jvm.Wk
open Jvm Jvm.ClassFile Sem Op Lib Jvm.Free Jvm.Stand Jvm.LawKit Jvm.RoadKit
/-! A backward calculus of walks ('Walk'), over the library's Stand laws. -/
abbrev LiT : Type := List (String × Nat × Addr)
/-- String constants since the law's start: texts interned (among Ts); entries known to be resolved -/
abbrev TsT : Type := Option (List String)
def LS (Z : State) (vm : Vm) (Ts : TsT) (Li : LiT) : Prop := (∀ T, Ts = some T → IB Z vm T) ∧ ∀ q ∈ Li, (Z.setVm vm).resolvedAt? q.1 q.2.1 = some (.string q.2.2)
theorem LS.warm {Z s : State} {vm vm' : Vm} {Ts : TsT} {Li : LiT} (h : LS Z vm Ts Li) (hw : (s.setVm vm).WarmedH vm') : LS Z vm' Ts Li := by
  refine ⟨?_, fun q hq => ?_⟩
  · intro T hT
    obtain ⟨more, e, hm⟩ := h.1 T hT
    exact ⟨more, (hw.interned_eq).trans e, hm⟩
  · exact State.resolvedAt?_warmed39 (s := s.setVm vm) hw.wide (h.2 q hq)
theorem LS.start {Z : State} : LS Z Z.vm (some []) [] := ⟨fun T hT => by cases hT; exact IB.start, fun _ q => nomatch q⟩
theorem LS.nil {Z : State} {vm : Vm} {Ts : TsT} {Li : LiT} (h : LS Z vm Ts Li) : LS Z vm Ts [] := ⟨h.1, fun _ q => nomatch q⟩
/-- old cells keep their kind, and their slots but for those in W -/
def Kq (h h' : Heap) (W : Loc → Prop) : Prop := h.size ≤ h'.size ∧ ∀ (a : Addr) (c : Cell), h[a]? = some c → ∃ c' : Cell, h'[a]? = some c' ∧ c'.cls = c.cls ∧ c'.vm = c.vm ∧ c'.slots.size = c.slots.size ∧ ∀ i, ¬ W ⟨a, i⟩ → c'.slots[i]? = c.slots[i]?
abbrev noW : Loc → Prop := fun _ => False
theorem Kq.refl (h : Heap) (W : Loc → Prop) : Kq h h W := ⟨Nat.le_refl _, fun _ c q => ⟨c, q, rfl, rfl, rfl, fun _ _ => rfl⟩⟩
theorem Kq.of_ext {h h' : Heap} (E : Ext h h') : Kq h h' noW := ⟨E.1, fun a c q => ⟨c, E.2 a c q, rfl, rfl, rfl, fun _ _ => rfl⟩⟩
theorem Kq.of_wr {h h' : Heap} {a : Addr} {sl : Nat} {v : Value} (W : Wr h h' a sl v) : Kq h h' (fun y => y = ⟨a, sl⟩) := by
  refine ⟨Nat.le_of_eq W.size.symm, fun b c q => ?_⟩
  obtain ⟨c', e1, e2, e3, e4, e5, e6, -⟩ := wr_at W q
  refine ⟨c', e1, e2, e3, e4, fun i hi => ?_⟩
  by_cases e : b = a
  · refine e6 i fun hj => hi ?_
    rw [e, hj]
  · rw [e5 e]
theorem Kq.trans {h h1 h2 : Heap} {W W1 W2 : Loc → Prop} (K : Kq h h1 W1) (K' : Kq h1 h2 W2) (q1 : ∀ y, W1 y → W y) (q2 : ∀ y : Loc, y.base < h.size → W2 y → W y) : Kq h h2 W := by
  refine ⟨Nat.le_trans K.1 K'.1, fun a c q => ?_⟩
  obtain ⟨c1, a1, a2, a3, a4, a5⟩ := K.2 a c q
  obtain ⟨c2, b1, b2, b3, b4, b5⟩ := K'.2 a c1 a1
  exact ⟨c2, b1, b2.trans a2, b3.trans a3, b4.trans a4, fun i hi => (b5 i fun hw => hi (q2 _ (Array.getElem?_eq_some_iff.mp q).1 hw)).trans (a5 i fun hw => hi (q1 _ hw))⟩
theorem Kq.mono {h h1 : Heap} {W W1 : Loc → Prop} (K : Kq h h1 W1) (q : ∀ y, W1 y → W y) : Kq h h1 W := ⟨K.1, fun a c e => by
  obtain ⟨c1, a1, a2, a3, a4, a5⟩ := K.2 a c e
  exact ⟨c1, a1, a2, a3, a4, fun i hi => a5 i fun hw => hi (q _ hw)⟩⟩
/-- an array: its kind, its length, what stands in it -/
def Av (Z : State) (h : Heap) (a : Addr) (ty : FieldType) (n : Nat) (f : Nat → Value) : Prop := ∃ c : Cell, Arr Z h a c ty ∧ c.slots.size = n ∧ n < 2147483648 ∧ ∀ i, i < n → c.slots[i]? = some (f i)
theorem nw {a b : Addr} {i j : Nat} (q : a ≠ b) : ¬ ((⟨a, i⟩ : Loc) = ⟨b, j⟩) := fun e => q (congrArg Loc.base e)
theorem nws {a b : Addr} {i j : Nat} (q : i ≠ j) : ¬ ((⟨a, i⟩ : Loc) = ⟨b, j⟩) := fun e => q (by cases e; rfl)
theorem nwb {a b : Addr} {i : Nat} (q : a ≠ b) : ¬ ((⟨a, i⟩ : Loc).base = b) := q
theorem ltne {a b : Addr} {n : Nat} (h : a < n) (g : n ≤ b) : a ≠ b := Nat.ne_of_lt (Nat.lt_of_lt_of_le h g)
theorem gtne {a b : Addr} {n : Nat} (h : a < n) (g : n ≤ b) : b ≠ a := Nat.ne_of_gt (Nat.lt_of_lt_of_le h g)
end Jvm.Wk
namespace Jvm.RoadKit
open Jvm Jvm.ClassFile Sem Op Lib Jvm.Free Jvm.Stand Jvm.LawKit Jvm.Wk
section Facts
variable {Z : State} {h h' : Heap} {W : Loc → Prop} {a b : Addr} {C n d : String} {v w : Value} {ty : FieldType}
theorem Fld.kq (F : Fld Z h a C n d v) (K : Kq h h' W) (q : ¬ W ⟨a, Jvm.RoadKit.slotOf Z C n d⟩) : Fld Z h' a C n d v := by
  obtain ⟨cell, cf, k, i, f, h1, h2, h3, h4, h5, h6, h7⟩ := F
  obtain ⟨c', e1, e2, e3, -, e5⟩ := K.2 _ _ h1
  refine ⟨c', cf, k, i, f, e1, h2, h3, by rw [e3]; exact h4, by rw [e3]; exact h5, by rw [e2]; exact h6, ?_⟩
  rw [e5 f.slot (by simpa [slotOf, h2] using q)]; exact h7
theorem Exa.kq (F : Exa Z h a C) (K : Kq h h' W) : Exa Z h' a C := by
  obtain ⟨cell, k, h1, h2, h3, h4, h5⟩ := F
  obtain ⟨c', e1, e2, e3, e4, -⟩ := K.2 _ _ h1
  exact ⟨c', k, e1, by rw [e2]; exact h2, by rw [e2]; exact h3, by rw [e3]; exact h4, by rw [e4]; exact h5⟩
theorem kqCell (K : Kq h h' W) {c : Cell} (e : h[a]? = some c) (q : ∀ i, ¬ W ⟨a, i⟩) : ∃ c' : Cell, h'[a]? = some c' ∧ c'.cls = c.cls ∧ c'.vm = c.vm ∧ c'.slots = c.slots := by
  obtain ⟨c', e1, e2, e3, -, e5⟩ := K.2 _ _ e
  exact ⟨c', e1, e2, e3, Array.ext_getElem? fun i => e5 i (q i)⟩
theorem Arr.kq {c : Cell} (F : Arr Z h a c ty) (K : Kq h h' W) (q : ∀ i, ¬ W ⟨a, i⟩) : ∃ c', Arr Z h' a c' ty ∧ c'.cls = c.cls ∧ c'.slots = c.slots := by
  obtain ⟨c', e1, e2, e3, -, e5⟩ := K.2 _ _ F.1
  obtain ⟨g1, k, g2, g3⟩ := F.2.1
  exact ⟨c', ⟨e1, ⟨by rw [e3]; exact g1, k, by rw [e2]; exact g2, g3⟩, by rw [e3]; exact F.2.2⟩, e2, Array.ext_getElem? fun i => e5 i (q i)⟩
theorem Arv.kq {k : ClassId} {z : Int32} {vs : List Value} {dv : Value} (F : Arv Z h a k ty z vs dv) (K : Kq h h' W) (q : ∀ i, ¬ W ⟨a, i⟩) : Arv Z h' a k ty z vs dv := by
  obtain ⟨c, A, r1, r2, r3, r4, r5⟩ := F
  obtain ⟨c', A', e1, e2⟩ := A.kq K q
  exact ⟨c', A', e1.trans r1, by rw [e2]; exact r2, r3, fun i hi => by rw [e2] at hi ⊢; exact r4 i hi, fun i hi => by rw [e2] at hi; exact r5 i hi⟩
theorem Ins.kq {K : String} {bo : Bool} (F : Ins Z h a K bo) (KK : Kq h h' W) : Ins Z h' a K bo := by
  obtain ⟨cell, cT, h1, h2, h3⟩ := F
  obtain ⟨c', e1, e2, e3, -⟩ := KK.2 _ _ h1
  exact ⟨c', cT, e1, h2, by rw [e2, e3]; exact h3⟩
end Facts
end Jvm.RoadKit
namespace Jvm.Wk
open Jvm Jvm.ClassFile Sem Op Lib Jvm.Free Jvm.Stand Jvm.LawKit Jvm.RoadKit
theorem Av.kq {Z : State} {h h' : Heap} {W : Loc → Prop} {a : Addr} {ty : FieldType} {z : Nat} {f : Nat → Value} (F : Av Z h a ty z f) (K : Kq h h' W) (q : ∀ i, ¬ W ⟨a, i⟩) : Av Z h' a ty z f := by
  obtain ⟨c, A, r1, r2, r3⟩ := F
  obtain ⟨c', A', e1, e2⟩ := A.kq K q
  exact ⟨c', A', by rw [e2]; exact r1, r2, fun i hi => by rw [e2]; exact r3 i hi⟩
theorem exa_av {Z : State} {h : Heap} {a b : Addr} {C : String} {k : Nat} {a0 : Array Value} {ty : FieldType} {z : Nat} {f : Nat → Value} (E : Exa Z h a C) (w : (Cond.instantiable C k).before a0 Z = true) (F : Av Z h b ty z f) : a ≠ b := by obtain ⟨c, A, -⟩ := F; exact ne_arr E w A
theorem Av.congr {Z : State} {h : Heap} {a : Addr} {ty : FieldType} {n : Nat} {f g : Nat → Value} (F : Av Z h a ty n f) (e : ∀ i, i < n → f i = g i) : Av Z h a ty n g := by
  obtain ⟨c, A, r1, r2, r3⟩ := F
  exact ⟨c, A, r1, r2, fun i hi => (e i hi) ▸ r3 i hi⟩
theorem Av.kq0 {Z : State} {h : Heap} {a : Addr} {ty : FieldType} {f g : Nat → Value} (F : Av Z h a ty 0 f) : Av Z h a ty 0 g := F.congr fun i hi => absurd hi (Nat.not_lt_zero _)
theorem Av.lt {Z : State} {h : Heap} {a : Addr} {ty : FieldType} {z : Nat} {f : Nat → Value} (F : Av Z h a ty z f) : a < h.size := by obtain ⟨c, A, -⟩ := F; exact A.lt
theorem Av.of_arv {Z : State} {h : Heap} {a : Addr} {k : ClassId} {ty : FieldType} {z : Int32} {vs : List Value} {d : Value} (F : Arv Z h a k ty z vs d) {n : Nat} (hn : z.toNatClampNeg = n) : Av Z h a ty n (fun i => vs.getD i d) := by
  obtain ⟨c, A, r1, r2, r3, r4, r5⟩ := F
  exact ⟨c, A, r2.trans hn, hn ▸ (back32 r3).2, fun i hi => r4 i (by rw [r2, hn]; exact hi)⟩
end Jvm.Wk
namespace Jvm.Wk
open Jvm Jvm.ClassFile Sem Op Lib Jvm.Free Jvm.Stand Jvm.LawKit Jvm.RoadKit
/-- places made since h, or in W -/
def Fw (h : Heap) (W : Loc → Prop) : Loc → Prop := fun y => h.size ≤ y.base ∨ W y
theorem Fw.fresh {h : Heap} {W : Loc → Prop} {a : Addr} {i : Nat} (q : h.size ≤ a) : Fw h W ⟨a, i⟩ := Or.inl q
theorem Fw.up {h0 h : Heap} {W V : Loc → Prop} (q : ∀ y, V y → Fw h0 W y) (g : h0.size ≤ h.size) : ∀ y, Fw h V y → Fw h0 W y := fun y r => r.elim (fun r => Or.inl (Nat.le_trans g r)) (q y)
theorem Fw.upN {h0 h : Heap} {W : Loc → Prop} (g : h0.size ≤ h.size) : ∀ y, Fw h noW y → Fw h0 W y := fun y r => r.elim (fun r => Or.inl (Nat.le_trans g r)) (fun r => r.elim)
theorem Fw.old {h : Heap} {W : Loc → Prop} {y : Loc} (q : W y) : Fw h W y := Or.inr q
/-- where a walk stands -/
def On (Z : State) (own nm : String) (rt : Option FieldType) (B : ByteArray) (ml : Nat) (R : Room) (h0 : Heap) (ws : Loc → Prop) (p : Program) (l : Launch) (e : Env) (s : State) (m : MethodId) (args : Array Value) (below : List Frame) (meth : Method) (c : Code) (Ts : TsT) (Li : LiT) (T : State) (h : Heap) (locs : List Loc) (cells slots : Nat) : Prop :=
  ∃ (vm0 : Vm) (k0 : Nat), Stand p l e R (s.setVm vm0) m args below meth c T locs cells slots ∧ p.tables.exec = Jvm.exec ∧ T.heap = h ∧ s.Since vm0 k0 ∧ k0 ≤ h.size ∧ Z.Warmed39 vm0 ∧ vm0.findClass own = some m.cls ∧ LS Z vm0 Ts Li ∧
    Fr Z.heap.size locs ∧ (∀ y ∈ locs, ws y) ∧ s.heap = h0 ∧ Ext Z.heap s.heap ∧ c.code = B ∧ c.maxLocals = ml ∧ meth.name = nm ∧ meth.sig.returnType = rt ∧ meth.locks = false
def Go (tb : Tables) (e : Env) (below : List Frame) (F : Outcome → State → Prop) (a : State) : Prop := ∃ s₂ o, Steps tb e below a s₂ ∧ s₂.status = .running ∧ Ended s₂ below o ∧ F o s₂
/-- how a frame ends -/
abbrev QT : Type := Option Value → Heap → TsT → LiT → Prop
def Fnl (Z : State) (R : Room) (h0 : Heap) (W : Loc → Prop) (Q : QT) (s : State) (o : Outcome) (s₂ : State) : Prop :=
  ∃ v L Ts' Li', o = .returned v ∧ Q v s₂.heap Ts' Li' ∧ LS Z s₂.vm Ts' Li' ∧ Fr Z.heap.size L ∧ (∀ y ∈ L, Fw h0 W y) ∧ ReturnedEndW s o s₂ L R.cells R.slots
/-- from wherever a walk stands so, the frame's end is reached -/
def Walk (Z : State) (own nm : String) (rt : Option FieldType) (B : ByteArray) (ml : Nat) (R : Room) (h0 : Heap) (W : Loc → Prop) (Q : QT) (ws : Loc → Prop) (Ts : TsT) (Li : LiT) (h : Heap) (cells slots pc : Nat) (Ls : Array Slot) (st : List Value) : Prop :=
  ∀ p l e s m args below meth c T locs, On Z own nm rt B ml R h0 ws p l e s m args below meth c Ts Li T h locs cells slots → Go p.tables e below (Fnl Z R h0 W Q s) (T.setTop (mkF m pc Ls st))
/-- it answers v0 and leaves all as it was -/
abbrev Pu (v0 : Option Value) (h : Heap) (Ts : TsT) (Li : LiT) : QT := fun v h' T L => v = v0 ∧ h' = h ∧ T = Ts ∧ L = Li
/-- a method's contract -/
def Con (Z : State) (y : MethodName) (B : ByteArray) (ml : Nat) (rt : Option FieldType) (R : Room) (as : List Value) (h0 : Heap) (Ts : TsT) (Li : LiT) (W : Loc → Prop) (Q : QT) : Prop :=
  ∀ l tb, MetFree l y (head1 (Cond.code y B ml rt :: tb) R) (fun a U => a = as.toArray ∧ Z.Warmed39 U.vm ∧ U.heap = h0 ∧ Ext Z.heap U.heap ∧ LS Z U.vm Ts Li) (fun _ _ _ _ _ => True) (fun _ U o U' => Fnl Z R h0 W Q U o U')
theorem Con.of {Z : State} {y : MethodName} {B : ByteArray} {ml : Nat} {rt : Option FieldType} {R : Room} {as : List Value} {h0 : Heap} {Ts : TsT} {Li : LiT} {W : Loc → Prop} {Q : QT} {ws : Loc → Prop} {Ls : Array Slot}
    (hp : plainFor y = true) (he : ∀ m, entryFrame m as.toArray ml = mkF m 0 Ls []) (k : Ext Z.heap h0 → Walk Z y.cls y.name rt B ml R h0 W Q ws Ts Li h0 0 0 0 Ls []) : Con Z y B ml rt R as h0 Ts Li W Q := by
  intro l tb
  refine MetFree.of_bodySF hp hisR ?_
  intro p e s m args below meth c s₁ Bd hml0 hP hK
  obtain ⟨rfl, hZ, hh, hE, hL⟩ := hP
  have X0 : Stand p l e R (s.setVm s.vm) m as.toArray below meth c s₁ [] 0 0 := Stand.of_body Bd
  have e0 : s₁.heap = h0 := by rw [← hh, Bd.state]; rfl
  obtain ⟨s₂, o, h1, h2, h3, h4⟩ := k (hh ▸ hE) p l e s m as.toArray below meth c s₁ [] ⟨s.vm, h0.size, X0, Bd.exec, e0, (State.WarmedH.refl s).since _, Nat.le_refl _, hZ, findClass_of_methodNamed Bd.named, hL, Fr.nil _, (fun _ q => nomatch q), hh, hE, Bd.bytes, hml0, (name_of_methodNamed Bd.named Bd.method).1, Bd.returns, Bd.notSynchronized⟩
  exact ⟨s₂, o, castTop (he m) h1, h2, h3, h4⟩
section W
variable {Z : State} {own nm : String} {rt : Option FieldType} {B : ByteArray} {ml : Nat} {R : Room} {h0 : Heap} {W : Loc → Prop} {Q : QT} {ws : Loc → Prop} {Ts : TsT} {Li : LiT} {h : Heap} {cells slots pc pc' : Nat} {Ls Ls' : Array Slot} {st st' : List Value} {a0 : Array Value}
theorem Walk.lift (f : ∀ (p : Program) (e : Env) (below : List Frame) (T : State) (m : MethodId) (c : Code) (target : State), At T m c below → p.tables.exec = Jvm.exec → c.code = B → Steps p.tables e below (T.setTop (mkF m pc' Ls' st')) target → Steps p.tables e below (T.setTop (mkF m pc Ls st)) target)
    (k : Walk Z own nm rt B ml R h0 W Q ws Ts Li h cells slots pc' Ls' st') : Walk Z own nm rt B ml R h0 W Q ws Ts Li h cells slots pc Ls st := by
  intro p l e s m args below meth c T locs ho
  obtain ⟨s₂, o, h1, r⟩ := k p l e s m args below meth c T locs ho
  obtain ⟨vm0, k0, X, hx, -, -, -, -, -, -, -, -, -, -, hc, -⟩ := ho
  exact ⟨s₂, o, f p e below T m c s₂ X.here hx hc h1, r⟩
theorem Walk.ws_mono {ws' : Loc → Prop} (q : ∀ y, ws y → ws' y) (k : Walk Z own nm rt B ml R h0 W Q ws' Ts Li h cells slots pc Ls st) : Walk Z own nm rt B ml R h0 W Q ws Ts Li h cells slots pc Ls st := by
  intro p l e s m args below meth c T locs ho
  obtain ⟨vm0, k0, X, hx, a1, a2, a3, a4, a5, a6, a7, a8, a9⟩ := ho
  exact k p l e s m args below meth c T locs ⟨vm0, k0, X, hx, a1, a2, a3, a4, a5, a6, a7, fun y hy => q y (a8 y hy), a9⟩
/-- more may have been made -/
theorem Walk.more {cells' slots' : Nat} (hc : cells ≤ cells') (hs : slots ≤ slots') (k : Walk Z own nm rt B ml R h0 W Q ws Ts Li h cells' slots' pc Ls st) : Walk Z own nm rt B ml R h0 W Q ws Ts Li h cells slots pc Ls st := by
  intro p l e s m args below meth c T locs ho
  obtain ⟨vm0, k0, X, r⟩ := ho
  exact k p l e s m args below meth c T locs ⟨vm0, k0, X.more hc hs, r⟩
/-- the law's start stands yet -/
theorem Walk.old (k : Ext Z.heap h → Walk Z own nm rt B ml R h0 W Q ws Ts Li h cells slots pc Ls st) : Walk Z own nm rt B ml R h0 W Q ws Ts Li h cells slots pc Ls st := by
  intro p l e s m args below meth c T locs ho
  obtain ⟨vm0, k0, X, hx, eT, a2, a3, a4, a5, a6, N, a8, a9, E, r⟩ := id ho
  refine k ⟨?_, fun b cl hcl => ?_⟩ p l e s m args below meth c T locs ho
  · have q : s.heap.size ≤ T.heap.size := X.same.2.1
    rw [← eT]; exact Nat.le_trans E.1 q
  · obtain ⟨c', h1, h2, -, h4⟩ := X.same.2.2.2.2.2 b cl (E.2 b cl hcl)
    have hb := (Array.getElem?_eq_some_iff.mp hcl).1
    have hsl : c'.slots = cl.slots := Array.ext_getElem? fun i => h4 i fun hm => absurd (N _ hm) (Nat.not_le.mpr hb)
    have hcc : c' = cl := by rw [h2, hsl]
    rw [← eT, ← hcc]; exact h1
theorem Walk.aloadN {k : Fin 4} {v : Value} (hd : decode B pc = .ok (.aload_n k, 1)) (hl : Ls[k.val]? = some (.val v)) (hv : v.isRef = true) (k' : Walk Z own nm rt B ml R h0 W Q ws Ts Li h cells slots pc' Ls (v :: st)) (hp : pc + 1 = pc' := by rfl) : Walk Z own nm rt B ml R h0 W Q ws Ts Li h cells slots pc Ls (st) :=
  Walk.lift (fun _ _ _ _ _ _ _ h hx hc r => XS.aloadN h hx rfl (hb hc hd) hl hv (by subst hp; exact r)) k'
theorem Walk.aload {k : Nat} {v : Value} (hd : decode B pc = .ok (.aload k, 2)) (hl : Ls[k]? = some (.val v)) (hv : v.isRef = true) (k' : Walk Z own nm rt B ml R h0 W Q ws Ts Li h cells slots pc' Ls (v :: st)) (hp : pc + 2 = pc' := by rfl) : Walk Z own nm rt B ml R h0 W Q ws Ts Li h cells slots pc Ls (st) :=
  Walk.lift (fun _ _ _ _ _ _ _ h hx hc r => XS.aload h hx rfl (hb hc hd) hl hv (by subst hp; exact r)) k'
theorem Walk.iloadN {k : Fin 4} {v : Int32} (hd : decode B pc = .ok (.iload_n k, 1)) (hl : Ls[k.val]? = some (.val (.int v))) (k' : Walk Z own nm rt B ml R h0 W Q ws Ts Li h cells slots pc' Ls (.int v :: st)) (hp : pc + 1 = pc' := by rfl) : Walk Z own nm rt B ml R h0 W Q ws Ts Li h cells slots pc Ls (st) :=
  Walk.lift (fun _ _ _ _ _ _ _ h hx hc r => XS.iloadN h hx rfl (hb hc hd) hl (by subst hp; exact r)) k'
theorem Walk.iload {k : Nat} {v : Int32} (hd : decode B pc = .ok (.iload k, 2)) (hl : Ls[k]? = some (.val (.int v))) (k' : Walk Z own nm rt B ml R h0 W Q ws Ts Li h cells slots pc' Ls (.int v :: st)) (hp : pc + 2 = pc' := by rfl) : Walk Z own nm rt B ml R h0 W Q ws Ts Li h cells slots pc Ls (st) :=
  Walk.lift (fun _ _ _ _ _ _ _ h hx hc r => XS.iload h hx rfl (hb hc hd) hl (by subst hp; exact r)) k'
theorem Walk.lloadN {k : Fin 4} {v : Int64} (hd : decode B pc = .ok (.lload_n k, 1)) (hl : Ls[k.val]? = some (.val (.long v))) (k' : Walk Z own nm rt B ml R h0 W Q ws Ts Li h cells slots pc' Ls (.long v :: st)) (hp : pc + 1 = pc' := by rfl) : Walk Z own nm rt B ml R h0 W Q ws Ts Li h cells slots pc Ls (st) :=
  Walk.lift (fun _ _ _ _ _ _ _ h hx hc r => XT.lloadN h hx rfl (hb hc hd) hl (by subst hp; exact r)) k'
theorem Walk.lload {k : Nat} {v : Int64} (hd : decode B pc = .ok (.lload k, 2)) (hl : Ls[k]? = some (.val (.long v))) (k' : Walk Z own nm rt B ml R h0 W Q ws Ts Li h cells slots pc' Ls (.long v :: st)) (hp : pc + 2 = pc' := by rfl) : Walk Z own nm rt B ml R h0 W Q ws Ts Li h cells slots pc Ls (st) :=
  Walk.lift (fun _ _ _ _ _ _ _ h hx hc r => XT.lload h hx rfl (hb hc hd) hl (by subst hp; exact r)) k'
theorem Walk.iconst {i : Int} (v : Int32) (hd : decode B pc = .ok (.iconst i, 1)) (hv : Int32.ofInt i = v) (k' : Walk Z own nm rt B ml R h0 W Q ws Ts Li h cells slots pc' Ls (.int v :: st)) (hp : pc + 1 = pc' := by rfl) : Walk Z own nm rt B ml R h0 W Q ws Ts Li h cells slots pc Ls (st) :=
  Walk.lift (fun _ _ _ _ _ _ _ h hx hc r => XT.iconstV h hx rfl v (hb hc hd) hv (by subst hp; exact r)) k'
theorem Walk.bipush {i : Int} (v : Int32) (hd : decode B pc = .ok (.bipush i, 2)) (hv : (Int8.ofInt i).toInt32 = v) (k' : Walk Z own nm rt B ml R h0 W Q ws Ts Li h cells slots pc' Ls (.int v :: st)) (hp : pc + 2 = pc' := by rfl) : Walk Z own nm rt B ml R h0 W Q ws Ts Li h cells slots pc Ls (st) :=
  Walk.lift (fun _ _ _ _ _ _ _ h hx hc r => XT.bipushV h hx rfl v (hb hc hd) hv (by subst hp; exact r)) k'
theorem Walk.sipush {i : Int} (v : Int32) (hd : decode B pc = .ok (.sipush i, 3)) (hv : (Int16.ofInt i).toInt32 = v) (k' : Walk Z own nm rt B ml R h0 W Q ws Ts Li h cells slots pc' Ls (.int v :: st)) (hp : pc + 3 = pc' := by rfl) : Walk Z own nm rt B ml R h0 W Q ws Ts Li h cells slots pc Ls (st) :=
  Walk.lift (fun _ _ _ _ _ _ _ h hx hc r => XT.sipushV h hx rfl v (hb hc hd) hv (by subst hp; exact r)) k'
theorem Walk.lconst {k : Fin 2} (v : Int64) (hd : decode B pc = .ok (.lconst k, 1)) (hv : Int64.ofNat k = v) (k' : Walk Z own nm rt B ml R h0 W Q ws Ts Li h cells slots pc' Ls (.long v :: st)) (hp : pc + 1 = pc' := by rfl) : Walk Z own nm rt B ml R h0 W Q ws Ts Li h cells slots pc Ls (st) :=
  Walk.lift (fun _ _ _ _ _ _ _ h hx hc r => XT.lconstV h hx rfl v (hb hc hd) hv (by subst hp; exact r)) k'
theorem Walk.aconstNull (hd : decode B pc = .ok (.aconst_null, 1)) (k' : Walk Z own nm rt B ml R h0 W Q ws Ts Li h cells slots pc' Ls (.null :: st)) (hp : pc + 1 = pc' := by rfl) : Walk Z own nm rt B ml R h0 W Q ws Ts Li h cells slots pc Ls (st) :=
  Walk.lift (fun _ _ _ _ _ _ _ h hx hc r => XS.aconstNull h hx rfl (hb hc hd) (by subst hp; exact r)) k'
theorem Walk.iadd {x y : Int32} (hd : decode B pc = .ok (.iadd, 1)) (k' : Walk Z own nm rt B ml R h0 W Q ws Ts Li h cells slots pc' Ls (.int (x + y) :: st)) (hp : pc + 1 = pc' := by rfl) : Walk Z own nm rt B ml R h0 W Q ws Ts Li h cells slots pc Ls (.int y :: .int x :: st) :=
  Walk.lift (fun _ _ _ _ _ _ _ h hx hc r => XS.iadd h hx rfl (hb hc hd) rfl (by subst hp; exact r)) k'
theorem Walk.isub {x y : Int32} (hd : decode B pc = .ok (.isub, 1)) (k' : Walk Z own nm rt B ml R h0 W Q ws Ts Li h cells slots pc' Ls (.int (x - y) :: st)) (hp : pc + 1 = pc' := by rfl) : Walk Z own nm rt B ml R h0 W Q ws Ts Li h cells slots pc Ls (.int y :: .int x :: st) :=
  Walk.lift (fun _ _ _ _ _ _ _ h hx hc r => XS.isub h hx rfl (hb hc hd) rfl (by subst hp; exact r)) k'
theorem Walk.iand {x y : Int32} (hd : decode B pc = .ok (.iand, 1)) (k' : Walk Z own nm rt B ml R h0 W Q ws Ts Li h cells slots pc' Ls (.int (x &&& y) :: st)) (hp : pc + 1 = pc' := by rfl) : Walk Z own nm rt B ml R h0 W Q ws Ts Li h cells slots pc Ls (.int y :: .int x :: st) :=
  Walk.lift (fun _ _ _ _ _ _ _ h hx hc r => XS.iand h hx rfl (hb hc hd) rfl (by subst hp; exact r)) k'
theorem Walk.imul {x y : Int32} (hd : decode B pc = .ok (.imul, 1)) (k' : Walk Z own nm rt B ml R h0 W Q ws Ts Li h cells slots pc' Ls (.int (x * y) :: st)) (hp : pc + 1 = pc' := by rfl) : Walk Z own nm rt B ml R h0 W Q ws Ts Li h cells slots pc Ls (.int y :: .int x :: st) :=
  Walk.lift (fun _ _ _ _ _ _ _ h hx hc r => XS.imul h hx rfl (hb hc hd) rfl (by subst hp; exact r)) k'
theorem Walk.ixor {x y : Int32} (hd : decode B pc = .ok (.ixor, 1)) (k' : Walk Z own nm rt B ml R h0 W Q ws Ts Li h cells slots pc' Ls (.int (x ^^^ y) :: st)) (hp : pc + 1 = pc' := by rfl) : Walk Z own nm rt B ml R h0 W Q ws Ts Li h cells slots pc Ls (.int y :: .int x :: st) :=
  Walk.lift (fun _ _ _ _ _ _ _ h hx hc r => XT.ixor h hx rfl (hb hc hd) rfl (by subst hp; exact r)) k'
theorem Walk.ior {x y : Int32} (hd : decode B pc = .ok (.ior, 1)) (k' : Walk Z own nm rt B ml R h0 W Q ws Ts Li h cells slots pc' Ls (.int (x ||| y) :: st)) (hp : pc + 1 = pc' := by rfl) : Walk Z own nm rt B ml R h0 W Q ws Ts Li h cells slots pc Ls (.int y :: .int x :: st) :=
  Walk.lift (fun _ _ _ _ _ _ _ h hx hc r => XT.ior h hx rfl (hb hc hd) rfl (by subst hp; exact r)) k'
theorem Walk.ishl {x y : Int32} (hd : decode B pc = .ok (.ishl, 1)) (k' : Walk Z own nm rt B ml R h0 W Q ws Ts Li h cells slots pc' Ls (.int (x <<< (y &&& 31)) :: st)) (hp : pc + 1 = pc' := by rfl) : Walk Z own nm rt B ml R h0 W Q ws Ts Li h cells slots pc Ls (.int y :: .int x :: st) :=
  Walk.lift (fun _ _ _ _ _ _ _ h hx hc r => XT.ishl h hx rfl (hb hc hd) rfl (by subst hp; exact r)) k'
theorem Walk.ishr {x y : Int32} (hd : decode B pc = .ok (.ishr, 1)) (k' : Walk Z own nm rt B ml R h0 W Q ws Ts Li h cells slots pc' Ls (.int (x >>> (y &&& 31)) :: st)) (hp : pc + 1 = pc' := by rfl) : Walk Z own nm rt B ml R h0 W Q ws Ts Li h cells slots pc Ls (.int y :: .int x :: st) :=
  Walk.lift (fun _ _ _ _ _ _ _ h hx hc r => XT.ishr h hx rfl (hb hc hd) rfl (by subst hp; exact r)) k'
theorem Walk.iushr {x y : Int32} (hd : decode B pc = .ok (.iushr, 1)) (k' : Walk Z own nm rt B ml R h0 W Q ws Ts Li h cells slots pc' Ls (.int (XT.ushr x y) :: st)) (hp : pc + 1 = pc' := by rfl) : Walk Z own nm rt B ml R h0 W Q ws Ts Li h cells slots pc Ls (.int y :: .int x :: st) :=
  Walk.lift (fun _ _ _ _ _ _ _ h hx hc r => XT.iushr h hx rfl (hb hc hd) rfl (by subst hp; exact r)) k'
theorem Walk.idiv {x y : Int32} (hd : decode B pc = .ok (.idiv, 1)) (hy : y ≠ 0) (k' : Walk Z own nm rt B ml R h0 W Q ws Ts Li h cells slots pc' Ls (.int (x / y) :: st)) (hp : pc + 1 = pc' := by rfl) : Walk Z own nm rt B ml R h0 W Q ws Ts Li h cells slots pc Ls (.int y :: .int x :: st) :=
  Walk.lift (fun _ _ _ _ _ _ _ h hx hc r => XS.idiv h hx rfl (hb hc hd) rfl hy (by subst hp; exact r)) k'
theorem Walk.irem {x y : Int32} (hd : decode B pc = .ok (.irem, 1)) (hy : y ≠ 0) (k' : Walk Z own nm rt B ml R h0 W Q ws Ts Li h cells slots pc' Ls (.int (x - (x / y) * y) :: st)) (hp : pc + 1 = pc' := by rfl) : Walk Z own nm rt B ml R h0 W Q ws Ts Li h cells slots pc Ls (.int y :: .int x :: st) :=
  Walk.lift (fun _ _ _ _ _ _ _ h hx hc r => XS.irem h hx rfl (hb hc hd) rfl hy (by subst hp; exact r)) k'
theorem Walk.ineg {x : Int32} (hd : decode B pc = .ok (.ineg, 1)) (k' : Walk Z own nm rt B ml R h0 W Q ws Ts Li h cells slots pc' Ls (.int (-x) :: st)) (hp : pc + 1 = pc' := by rfl) : Walk Z own nm rt B ml R h0 W Q ws Ts Li h cells slots pc Ls (.int x :: st) :=
  Walk.lift (fun _ _ _ _ _ _ _ h hx hc r => XS.ineg h hx rfl (hb hc hd) rfl (by subst hp; exact r)) k'
theorem Walk.ladd {x y : Int64} (hd : decode B pc = .ok (.ladd, 1)) (k' : Walk Z own nm rt B ml R h0 W Q ws Ts Li h cells slots pc' Ls (.long (x + y) :: st)) (hp : pc + 1 = pc' := by rfl) : Walk Z own nm rt B ml R h0 W Q ws Ts Li h cells slots pc Ls (.long y :: .long x :: st) :=
  Walk.lift (fun _ _ _ _ _ _ _ h hx hc r => XT.ladd h hx rfl (hb hc hd) rfl (by subst hp; exact r)) k'
theorem Walk.lsub {x y : Int64} (hd : decode B pc = .ok (.lsub, 1)) (k' : Walk Z own nm rt B ml R h0 W Q ws Ts Li h cells slots pc' Ls (.long (x - y) :: st)) (hp : pc + 1 = pc' := by rfl) : Walk Z own nm rt B ml R h0 W Q ws Ts Li h cells slots pc Ls (.long y :: .long x :: st) :=
  Walk.lift (fun _ _ _ _ _ _ _ h hx hc r => XT.lsub h hx rfl (hb hc hd) rfl (by subst hp; exact r)) k'
theorem Walk.lmul {x y : Int64} (hd : decode B pc = .ok (.lmul, 1)) (k' : Walk Z own nm rt B ml R h0 W Q ws Ts Li h cells slots pc' Ls (.long (x * y) :: st)) (hp : pc + 1 = pc' := by rfl) : Walk Z own nm rt B ml R h0 W Q ws Ts Li h cells slots pc Ls (.long y :: .long x :: st) :=
  Walk.lift (fun _ _ _ _ _ _ _ h hx hc r => XT.lmul h hx rfl (hb hc hd) rfl (by subst hp; exact r)) k'
theorem Walk.land {x y : Int64} (hd : decode B pc = .ok (.land, 1)) (k' : Walk Z own nm rt B ml R h0 W Q ws Ts Li h cells slots pc' Ls (.long (x &&& y) :: st)) (hp : pc + 1 = pc' := by rfl) : Walk Z own nm rt B ml R h0 W Q ws Ts Li h cells slots pc Ls (.long y :: .long x :: st) :=
  Walk.lift (fun _ _ _ _ _ _ _ h hx hc r => XT.land h hx rfl (hb hc hd) rfl (by subst hp; exact r)) k'
theorem Walk.lor {x y : Int64} (hd : decode B pc = .ok (.lor, 1)) (k' : Walk Z own nm rt B ml R h0 W Q ws Ts Li h cells slots pc' Ls (.long (x ||| y) :: st)) (hp : pc + 1 = pc' := by rfl) : Walk Z own nm rt B ml R h0 W Q ws Ts Li h cells slots pc Ls (.long y :: .long x :: st) :=
  Walk.lift (fun _ _ _ _ _ _ _ h hx hc r => XT.lor h hx rfl (hb hc hd) rfl (by subst hp; exact r)) k'
theorem Walk.lxor {x y : Int64} (hd : decode B pc = .ok (.lxor, 1)) (k' : Walk Z own nm rt B ml R h0 W Q ws Ts Li h cells slots pc' Ls (.long (x ^^^ y) :: st)) (hp : pc + 1 = pc' := by rfl) : Walk Z own nm rt B ml R h0 W Q ws Ts Li h cells slots pc Ls (.long y :: .long x :: st) :=
  Walk.lift (fun _ _ _ _ _ _ _ h hx hc r => XT.lxor h hx rfl (hb hc hd) rfl (by subst hp; exact r)) k'
theorem Walk.ldiv {x y : Int64} (hd : decode B pc = .ok (.ldiv, 1)) (hy : y ≠ 0) (k' : Walk Z own nm rt B ml R h0 W Q ws Ts Li h cells slots pc' Ls (.long (x / y) :: st)) (hp : pc + 1 = pc' := by rfl) : Walk Z own nm rt B ml R h0 W Q ws Ts Li h cells slots pc Ls (.long y :: .long x :: st) :=
  Walk.lift (fun _ _ _ _ _ _ _ h hx hc r => XT.ldiv h hx rfl (hb hc hd) rfl hy (by subst hp; exact r)) k'
theorem Walk.lrem {x y : Int64} (hd : decode B pc = .ok (.lrem, 1)) (hy : y ≠ 0) (k' : Walk Z own nm rt B ml R h0 W Q ws Ts Li h cells slots pc' Ls (.long (x - (x / y) * y) :: st)) (hp : pc + 1 = pc' := by rfl) : Walk Z own nm rt B ml R h0 W Q ws Ts Li h cells slots pc Ls (.long y :: .long x :: st) :=
  Walk.lift (fun _ _ _ _ _ _ _ h hx hc r => XT.lrem h hx rfl (hb hc hd) rfl hy (by subst hp; exact r)) k'
theorem Walk.lshl {x : Int64} {y : Int32} (hd : decode B pc = .ok (.lshl, 1)) (k' : Walk Z own nm rt B ml R h0 W Q ws Ts Li h cells slots pc' Ls (.long (x <<< (y.toInt64 &&& 63)) :: st)) (hp : pc + 1 = pc' := by rfl) : Walk Z own nm rt B ml R h0 W Q ws Ts Li h cells slots pc Ls (.int y :: .long x :: st) :=
  Walk.lift (fun _ _ _ _ _ _ _ h hx hc r => XT.lshl h hx rfl (hb hc hd) rfl (by subst hp; exact r)) k'
theorem Walk.lshr {x : Int64} {y : Int32} (hd : decode B pc = .ok (.lshr, 1)) (k' : Walk Z own nm rt B ml R h0 W Q ws Ts Li h cells slots pc' Ls (.long (x >>> (y.toInt64 &&& 63)) :: st)) (hp : pc + 1 = pc' := by rfl) : Walk Z own nm rt B ml R h0 W Q ws Ts Li h cells slots pc Ls (.int y :: .long x :: st) :=
  Walk.lift (fun _ _ _ _ _ _ _ h hx hc r => XT.lshr h hx rfl (hb hc hd) rfl (by subst hp; exact r)) k'
theorem Walk.lushr {x : Int64} {y : Int32} (hd : decode B pc = .ok (.lushr, 1)) (k' : Walk Z own nm rt B ml R h0 W Q ws Ts Li h cells slots pc' Ls (.long (XT.ushrL x y) :: st)) (hp : pc + 1 = pc' := by rfl) : Walk Z own nm rt B ml R h0 W Q ws Ts Li h cells slots pc Ls (.int y :: .long x :: st) :=
  Walk.lift (fun _ _ _ _ _ _ _ h hx hc r => XT.lushr h hx rfl (hb hc hd) rfl (by subst hp; exact r)) k'
theorem Walk.lneg {x : Int64} (hd : decode B pc = .ok (.lneg, 1)) (k' : Walk Z own nm rt B ml R h0 W Q ws Ts Li h cells slots pc' Ls (.long (-x) :: st)) (hp : pc + 1 = pc' := by rfl) : Walk Z own nm rt B ml R h0 W Q ws Ts Li h cells slots pc Ls (.long x :: st) :=
  Walk.lift (fun _ _ _ _ _ _ _ h hx hc r => XT.lneg h hx rfl (hb hc hd) rfl (by subst hp; exact r)) k'
theorem Walk.lcmp {x y : Int64} (hd : decode B pc = .ok (.lcmp, 1)) (k' : Walk Z own nm rt B ml R h0 W Q ws Ts Li h cells slots pc' Ls (.int (XT.cmpL x y) :: st)) (hp : pc + 1 = pc' := by rfl) : Walk Z own nm rt B ml R h0 W Q ws Ts Li h cells slots pc Ls (.long y :: .long x :: st) :=
  Walk.lift (fun _ _ _ _ _ _ _ h hx hc r => XT.lcmp h hx rfl (hb hc hd) rfl (by subst hp; exact r)) k'
theorem Walk.i2l {x : Int32} (hd : decode B pc = .ok (.i2l, 1)) (k' : Walk Z own nm rt B ml R h0 W Q ws Ts Li h cells slots pc' Ls (.long x.toInt64 :: st)) (hp : pc + 1 = pc' := by rfl) : Walk Z own nm rt B ml R h0 W Q ws Ts Li h cells slots pc Ls (.int x :: st) :=
  Walk.lift (fun _ _ _ _ _ _ _ h hx hc r => XT.i2l h hx rfl (hb hc hd) rfl (by subst hp; exact r)) k'
theorem Walk.l2i {x : Int64} (hd : decode B pc = .ok (.l2i, 1)) (k' : Walk Z own nm rt B ml R h0 W Q ws Ts Li h cells slots pc' Ls (.int x.toInt32 :: st)) (hp : pc + 1 = pc' := by rfl) : Walk Z own nm rt B ml R h0 W Q ws Ts Li h cells slots pc Ls (.long x :: st) :=
  Walk.lift (fun _ _ _ _ _ _ _ h hx hc r => XT.l2i h hx rfl (hb hc hd) rfl (by subst hp; exact r)) k'
theorem Walk.i2b {x : Int32} (hd : decode B pc = .ok (.i2b, 1)) (k' : Walk Z own nm rt B ml R h0 W Q ws Ts Li h cells slots pc' Ls (.int x.toInt8.toInt32 :: st)) (hp : pc + 1 = pc' := by rfl) : Walk Z own nm rt B ml R h0 W Q ws Ts Li h cells slots pc Ls (.int x :: st) :=
  Walk.lift (fun _ _ _ _ _ _ _ h hx hc r => XT.i2b h hx rfl (hb hc hd) rfl (by subst hp; exact r)) k'
theorem Walk.i2c {x : Int32} (hd : decode B pc = .ok (.i2c, 1)) (k' : Walk Z own nm rt B ml R h0 W Q ws Ts Li h cells slots pc' Ls (.int x.toUInt32.toUInt16.toUInt32.toInt32 :: st)) (hp : pc + 1 = pc' := by rfl) : Walk Z own nm rt B ml R h0 W Q ws Ts Li h cells slots pc Ls (.int x :: st) :=
  Walk.lift (fun _ _ _ _ _ _ _ h hx hc r => XT.i2c h hx rfl (hb hc hd) rfl (by subst hp; exact r)) k'
theorem Walk.i2s {x : Int32} (hd : decode B pc = .ok (.i2s, 1)) (k' : Walk Z own nm rt B ml R h0 W Q ws Ts Li h cells slots pc' Ls (.int x.toInt16.toInt32 :: st)) (hp : pc + 1 = pc' := by rfl) : Walk Z own nm rt B ml R h0 W Q ws Ts Li h cells slots pc Ls (.int x :: st) :=
  Walk.lift (fun _ _ _ _ _ _ _ h hx hc r => XT.i2s h hx rfl (hb hc hd) rfl (by subst hp; exact r)) k'
theorem Walk.dup {x : Value} (hd : decode B pc = .ok (.dup, 1)) (hc1 : x.category = 1) (k' : Walk Z own nm rt B ml R h0 W Q ws Ts Li h cells slots pc' Ls (x :: x :: st)) (hp : pc + 1 = pc' := by rfl) : Walk Z own nm rt B ml R h0 W Q ws Ts Li h cells slots pc Ls (x :: st) :=
  Walk.lift (fun _ _ _ _ _ _ _ h hx hc r => XS.dup h hx rfl (hb hc hd) rfl hc1 (by subst hp; exact r)) k'
theorem Walk.pop {x : Value} (hd : decode B pc = .ok (.pop, 1)) (hc1 : x.category = 1) (k' : Walk Z own nm rt B ml R h0 W Q ws Ts Li h cells slots pc' Ls (st)) (hp : pc + 1 = pc' := by rfl) : Walk Z own nm rt B ml R h0 W Q ws Ts Li h cells slots pc Ls (x :: st) :=
  Walk.lift (fun _ _ _ _ _ _ _ h hx hc r => XT.pop h hx rfl (hb hc hd) rfl hc1 (by subst hp; exact r)) k'
theorem Walk.dupX1 {x y : Value} (hd : decode B pc = .ok (.dup_x1, 1)) (hc1 : x.category = 1) (hc2 : y.category = 1) (k' : Walk Z own nm rt B ml R h0 W Q ws Ts Li h cells slots pc' Ls (x :: y :: x :: st)) (hp : pc + 1 = pc' := by rfl) : Walk Z own nm rt B ml R h0 W Q ws Ts Li h cells slots pc Ls (x :: y :: st) :=
  Walk.lift (fun _ _ _ _ _ _ _ h hx hc r => XT.dupX1 h hx rfl (hb hc hd) rfl hc1 hc2 (by subst hp; exact r)) k'
theorem Walk.dup2 {x y : Value} (hd : decode B pc = .ok (.dup2, 1)) (hc1 : x.category = 1) (hc2 : y.category = 1) (k' : Walk Z own nm rt B ml R h0 W Q ws Ts Li h cells slots pc' Ls (x :: y :: x :: y :: st)) (hp : pc + 1 = pc' := by rfl) : Walk Z own nm rt B ml R h0 W Q ws Ts Li h cells slots pc Ls (x :: y :: st) :=
  Walk.lift (fun _ _ _ _ _ _ _ h hx hc r => XT.dup2 h hx rfl (hb hc hd) rfl hc1 hc2 (by subst hp; exact r)) k'
theorem Walk.dup2L {x : Int64} (hd : decode B pc = .ok (.dup2, 1)) (k' : Walk Z own nm rt B ml R h0 W Q ws Ts Li h cells slots pc' Ls (.long x :: .long x :: st)) (hp : pc + 1 = pc' := by rfl) : Walk Z own nm rt B ml R h0 W Q ws Ts Li h cells slots pc Ls (.long x :: st) :=
  Walk.lift (fun _ _ _ _ _ _ _ h hx hc r => XT.dup2L h hx rfl (hb hc hd) rfl (by subst hp; exact r)) k'
theorem Walk.istoreN {k : Fin 4} {x : Int32} (hd : decode B pc = .ok (.istore_n k, 1)) (hl : storeLocals Ls k.val (.int x) = some Ls') (k' : Walk Z own nm rt B ml R h0 W Q ws Ts Li h cells slots pc' Ls' (st)) (hp : pc + 1 = pc' := by rfl) : Walk Z own nm rt B ml R h0 W Q ws Ts Li h cells slots pc Ls (.int x :: st) :=
  Walk.lift (fun _ _ _ _ _ _ _ h hx hc r => XS.istoreN h hx rfl (hb hc hd) rfl hl (by subst hp; exact r)) k'
theorem Walk.istore {k : Nat} {x : Int32} (hd : decode B pc = .ok (.istore k, 2)) (hl : storeLocals Ls k (.int x) = some Ls') (k' : Walk Z own nm rt B ml R h0 W Q ws Ts Li h cells slots pc' Ls' (st)) (hp : pc + 2 = pc' := by rfl) : Walk Z own nm rt B ml R h0 W Q ws Ts Li h cells slots pc Ls (.int x :: st) :=
  Walk.lift (fun _ _ _ _ _ _ _ h hx hc r => XS.istore h hx rfl (hb hc hd) rfl hl (by subst hp; exact r)) k'
theorem Walk.lstoreN {k : Fin 4} {x : Int64} (hd : decode B pc = .ok (.lstore_n k, 1)) (hl : storeLocals Ls k.val (.long x) = some Ls') (k' : Walk Z own nm rt B ml R h0 W Q ws Ts Li h cells slots pc' Ls' (st)) (hp : pc + 1 = pc' := by rfl) : Walk Z own nm rt B ml R h0 W Q ws Ts Li h cells slots pc Ls (.long x :: st) :=
  Walk.lift (fun _ _ _ _ _ _ _ h hx hc r => XT.lstoreN h hx rfl (hb hc hd) rfl hl (by subst hp; exact r)) k'
theorem Walk.lstore {k : Nat} {x : Int64} (hd : decode B pc = .ok (.lstore k, 2)) (hl : storeLocals Ls k (.long x) = some Ls') (k' : Walk Z own nm rt B ml R h0 W Q ws Ts Li h cells slots pc' Ls' (st)) (hp : pc + 2 = pc' := by rfl) : Walk Z own nm rt B ml R h0 W Q ws Ts Li h cells slots pc Ls (.long x :: st) :=
  Walk.lift (fun _ _ _ _ _ _ _ h hx hc r => XT.lstore h hx rfl (hb hc hd) rfl hl (by subst hp; exact r)) k'
theorem Walk.astoreN {k : Fin 4} {x : Value} (hd : decode B pc = .ok (.astore_n k, 1)) (hv : x.isRef = true) (hl : storeLocals Ls k.val x = some Ls') (k' : Walk Z own nm rt B ml R h0 W Q ws Ts Li h cells slots pc' Ls' (st)) (hp : pc + 1 = pc' := by rfl) : Walk Z own nm rt B ml R h0 W Q ws Ts Li h cells slots pc Ls (x :: st) :=
  Walk.lift (fun _ _ _ _ _ _ _ h hx hc r => XS.astoreN h hx rfl (hb hc hd) rfl hv hl (by subst hp; exact r)) k'
theorem Walk.astore {k : Nat} {x : Value} (hd : decode B pc = .ok (.astore k, 2)) (hv : x.isRef = true) (hl : storeLocals Ls k x = some Ls') (k' : Walk Z own nm rt B ml R h0 W Q ws Ts Li h cells slots pc' Ls' (st)) (hp : pc + 2 = pc' := by rfl) : Walk Z own nm rt B ml R h0 W Q ws Ts Li h cells slots pc Ls (x :: st) :=
  Walk.lift (fun _ _ _ _ _ _ _ h hx hc r => XS.astore h hx rfl (hb hc hd) rfl hv hl (by subst hp; exact r)) k'
theorem Walk.iinc {k : Nat} {cst : Int} {x : Int32} (v : Int32) (hd : decode B pc = .ok (.iinc k cst, 3)) (hv : Int32.ofInt cst = v) (hl0 : Ls[k]? = some (.val (.int x))) (hl : storeLocals Ls k (.int (x + v)) = some Ls') (k' : Walk Z own nm rt B ml R h0 W Q ws Ts Li h cells slots pc' Ls' (st)) (hp : pc + 3 = pc' := by rfl) : Walk Z own nm rt B ml R h0 W Q ws Ts Li h cells slots pc Ls (st) :=
  Walk.lift (fun _ _ _ _ _ _ _ h hx hc r => XT.iincV h hx rfl v (hb hc hd) hv hl0 hl (by subst hp; exact r)) k'
theorem Walk.goto {off : Int} (hd : decode B pc = .ok (.goto off, 3)) (k' : Walk Z own nm rt B ml R h0 W Q ws Ts Li h cells slots pc' Ls (st)) (ho : 0 ≤ (pc : Int) + off := by decide) (hp : ((pc : Int) + off).toNat = pc' := by rfl) : Walk Z own nm rt B ml R h0 W Q ws Ts Li h cells slots pc Ls (st) :=
  Walk.lift (fun _ _ _ _ _ _ _ h hx hc r => XS.goto h hx rfl (pc0 := pc) (pc' := pc') rfl (hb hc hd) ho hp r) k'
theorem Walk.ifYes {off : Int} {cd : ClassFile.Cond} {x : Int32} (hd : decode B pc = .ok (.ifCond cd off, 3)) (hc1 : ifCond.holds cd x = true) (k' : Walk Z own nm rt B ml R h0 W Q ws Ts Li h cells slots pc' Ls (st)) (ho : 0 ≤ (pc : Int) + off := by decide) (hp : ((pc : Int) + off).toNat = pc' := by rfl) : Walk Z own nm rt B ml R h0 W Q ws Ts Li h cells slots pc Ls (.int x :: st) :=
  Walk.lift (fun _ _ _ _ _ _ _ h hx hc r => XS.ifYes h hx rfl (pc0 := pc) (pc' := pc') rfl (hb hc hd) rfl hc1 ho hp r) k'
theorem Walk.ifNo {cd : ClassFile.Cond} {off : Int} {x : Int32} (hd : decode B pc = .ok (.ifCond cd off, 3)) (hc1 : ifCond.holds cd x = false) (k' : Walk Z own nm rt B ml R h0 W Q ws Ts Li h cells slots pc' Ls (st)) (hp : pc + 3 = pc' := by rfl) : Walk Z own nm rt B ml R h0 W Q ws Ts Li h cells slots pc Ls (.int x :: st) :=
  Walk.lift (fun _ _ _ _ _ _ _ h hx hc r => XS.ifNo h hx rfl (hb hc hd) rfl hc1 (by subst hp; exact r)) k'
theorem Walk.icYes {off : Int} {cd : ClassFile.Cond} {x y : Int32} (hd : decode B pc = .ok (.if_icmp cd off, 3)) (hc1 : if_icmp.holds cd x y = true) (k' : Walk Z own nm rt B ml R h0 W Q ws Ts Li h cells slots pc' Ls (st)) (ho : 0 ≤ (pc : Int) + off := by decide) (hp : ((pc : Int) + off).toNat = pc' := by rfl) : Walk Z own nm rt B ml R h0 W Q ws Ts Li h cells slots pc Ls (.int y :: .int x :: st) :=
  Walk.lift (fun _ _ _ _ _ _ _ h hx hc r => XS.icmpYes h hx rfl (pc0 := pc) (pc' := pc') rfl (hb hc hd) rfl hc1 ho hp r) k'
theorem Walk.icNo {cd : ClassFile.Cond} {off : Int} {x y : Int32} (hd : decode B pc = .ok (.if_icmp cd off, 3)) (hc1 : if_icmp.holds cd x y = false) (k' : Walk Z own nm rt B ml R h0 W Q ws Ts Li h cells slots pc' Ls (st)) (hp : pc + 3 = pc' := by rfl) : Walk Z own nm rt B ml R h0 W Q ws Ts Li h cells slots pc Ls (.int y :: .int x :: st) :=
  Walk.lift (fun _ _ _ _ _ _ _ h hx hc r => XS.icmpNo h hx rfl (hb hc hd) rfl hc1 (by subst hp; exact r)) k'
theorem Walk.nullYes {off : Int} {v : Value} (hd : decode B pc = .ok (.ifnull off, 3)) (hv : v = .null) (k' : Walk Z own nm rt B ml R h0 W Q ws Ts Li h cells slots pc' Ls (st)) (ho : 0 ≤ (pc : Int) + off := by decide) (hp : ((pc : Int) + off).toNat = pc' := by rfl) : Walk Z own nm rt B ml R h0 W Q ws Ts Li h cells slots pc Ls (v :: st) :=
  Walk.lift (fun _ _ _ _ _ _ _ h hx hc r => XT.nullYes h hx rfl (pc0 := pc) (pc' := pc') rfl (hb hc hd) rfl hv ho hp r) k'
theorem Walk.nullNo {off : Int} {v : Value} (hd : decode B pc = .ok (.ifnull off, 3)) (hr : v.isRef = true) (hv : ¬ v = .null) (k' : Walk Z own nm rt B ml R h0 W Q ws Ts Li h cells slots pc' Ls (st)) (hp : pc + 3 = pc' := by rfl) : Walk Z own nm rt B ml R h0 W Q ws Ts Li h cells slots pc Ls (v :: st) :=
  Walk.lift (fun _ _ _ _ _ _ _ h hx hc r => XT.nullNo h hx rfl (hb hc hd) rfl hr hv (by subst hp; exact r)) k'
theorem Walk.nonnullYes {off : Int} {v : Value} (hd : decode B pc = .ok (.ifnonnull off, 3)) (hr : v.isRef = true) (hv : ¬ v = .null) (k' : Walk Z own nm rt B ml R h0 W Q ws Ts Li h cells slots pc' Ls (st)) (ho : 0 ≤ (pc : Int) + off := by decide) (hp : ((pc : Int) + off).toNat = pc' := by rfl) : Walk Z own nm rt B ml R h0 W Q ws Ts Li h cells slots pc Ls (v :: st) :=
  Walk.lift (fun _ _ _ _ _ _ _ h hx hc r => XT.nonnullYes h hx rfl (pc0 := pc) (pc' := pc') rfl (hb hc hd) rfl hr hv ho hp r) k'
theorem Walk.nonnullNo {off : Int} {v : Value} (hd : decode B pc = .ok (.ifnonnull off, 3)) (hv : v = .null) (k' : Walk Z own nm rt B ml R h0 W Q ws Ts Li h cells slots pc' Ls (st)) (hp : pc + 3 = pc' := by rfl) : Walk Z own nm rt B ml R h0 W Q ws Ts Li h cells slots pc Ls (v :: st) :=
  Walk.lift (fun _ _ _ _ _ _ _ h hx hc r => XT.nonnullNo h hx rfl (hb hc hd) rfl hv (by subst hp; exact r)) k'
theorem Walk.acYes {off : Int} {cd : ClassFile.ACond} {x y : Value} (hd : decode B pc = .ok (.if_acmp cd off, 3)) (h1 : x.isRef = true) (h2 : y.isRef = true) (hc1 : XT.acmp cd x y = true) (k' : Walk Z own nm rt B ml R h0 W Q ws Ts Li h cells slots pc' Ls (st)) (ho : 0 ≤ (pc : Int) + off := by decide) (hp : ((pc : Int) + off).toNat = pc' := by rfl) : Walk Z own nm rt B ml R h0 W Q ws Ts Li h cells slots pc Ls (y :: x :: st) :=
  Walk.lift (fun _ _ _ _ _ _ _ h hx hc r => XT.acmpYes h hx rfl (pc0 := pc) (pc' := pc') rfl (hb hc hd) rfl h1 h2 hc1 ho hp r) k'
theorem Walk.acNo {cd : ClassFile.ACond} {off : Int} {x y : Value} (hd : decode B pc = .ok (.if_acmp cd off, 3)) (h1 : x.isRef = true) (h2 : y.isRef = true) (hc1 : XT.acmp cd x y = false) (k' : Walk Z own nm rt B ml R h0 W Q ws Ts Li h cells slots pc' Ls (st)) (hp : pc + 3 = pc' := by rfl) : Walk Z own nm rt B ml R h0 W Q ws Ts Li h cells slots pc Ls (y :: x :: st) :=
  Walk.lift (fun _ _ _ _ _ _ _ h hx hc r => XT.acmpNo h hx rfl (hb hc hd) rfl h1 h2 hc1 (by subst hp; exact r)) k'
/-! ### steps that touch the heap -/
theorem On.kqOf {p : Program} {l : Launch} {e : Env} {s : State} {m : MethodId} {args : Array Value} {below : List Frame} {meth : Method} {c : Code} {T : State} {locs : List Loc}
    (ho : On Z own nm rt B ml R h0 ws p l e s m args below meth c Ts Li T h locs cells slots) (q : ∀ y, ws y → Fw h0 W y) : Kq h0 h W := by
  obtain ⟨vm0, k0, X, hx, eT, -, -, -, -, -, -, hws, e0, -⟩ := ho
  refine ⟨by rw [← e0, ← eT]; exact X.same.2.1, fun a cl hcl => ?_⟩
  rw [← e0] at hcl
  obtain ⟨c', h1, h2, h3, h4⟩ := X.same.2.2.2.2.2 a cl hcl
  have hlt := (Array.getElem?_eq_some_iff.mp hcl).1
  refine ⟨c', by rw [← eT]; exact h1, by rw [h2], by rw [h2], h3, fun i hi => h4 i fun hm => ?_⟩
  rcases q _ (hws _ hm) with r | r
  · rw [← e0] at r
    exact absurd r (Nat.not_le.mpr hlt)
  · exact hi r
theorem Walk.kept (q : ∀ y, ws y → Fw h0 W y) (k : Kq h0 h W → Walk Z own nm rt B ml R h0 W Q ws Ts Li h cells slots pc Ls st) : Walk Z own nm rt B ml R h0 W Q ws Ts Li h cells slots pc Ls st := by
  intro p l e s m args below meth c T locs ho
  exact k (ho.kqOf q) p l e s m args below meth c T locs ho
theorem Walk.getF {R0 O n d host : String} {index : Nat} {a : Addr} {v : Value} (w : (Cond.fieldLink own index R0 n d).before a0 Z = true ∨ (Cond.fieldLinkNest own index R0 n d host).before a0 Z = true) (via : Via Z R0 O n d) (F : Fld Z h a O n d v) (hd : decode B pc = .ok (.getfield index, 3))
    (k : Walk Z own nm rt B ml R h0 W Q ws Ts Li h cells slots pc' Ls (v :: st)) (hp : pc + 3 = pc' := by rfl) : Walk Z own nm rt B ml R h0 W Q ws Ts Li h cells slots pc Ls (.ref a :: st) := by
  intro p l e s m args below meth c T locs ho
  obtain ⟨vm0, k0, X, hx, eT, a2, a3, a4, a5, a6, a7, a8, a9, a10, hc, r⟩ := ho
  obtain ⟨T', X', e', stp⟩ := RoadKit.getF X hx a4 a5 w via eT F (g := mkF m pc Ls (.ref a :: st)) rfl rfl (hb hc hd)
  subst hp
  obtain ⟨s₂, o, h1, r2⟩ := k p l e s m args below meth c T' locs ⟨vm0, k0, X', hx, e', a2, a3, a4, a5, a6, a7, a8, a9, a10, hc, r⟩
  exact ⟨s₂, o, stp _ h1, r2⟩
theorem Walk.getS {R0 O n d : String} {index : Nat} {v : Value} (w : (Cond.fieldLink own index R0 n d).before a0 Z = true) (via : Via Z R0 O n d) (F : Sta Z Z.heap O n d v) (hd : decode B pc = .ok (.getstatic index, 3))
    (k : Walk Z own nm rt B ml R h0 W Q ws Ts Li h cells slots pc' Ls (v :: st)) (hp : pc + 3 = pc' := by rfl) : Walk Z own nm rt B ml R h0 W Q ws Ts Li h cells slots pc Ls st := by
  refine Walk.old fun E => ?_
  intro p l e s m args below meth c T locs ho
  obtain ⟨vm0, k0, X, hx, eT, a2, a3, a4, a5, a6, a7, a8, a9, a10, hc, r⟩ := ho
  obtain ⟨T', X', e', stp⟩ := RoadKit.getS (host := "") X hx a4 a5 w via eT (F.ext E) (g := mkF m pc Ls st) rfl (hb hc hd)
  subst hp
  obtain ⟨s₂, o, h1, r2⟩ := k p l e s m args below meth c T' locs ⟨vm0, k0, X', hx, e', a2, a3, a4, a5, a6, a7, a8, a9, a10, hc, r⟩
  exact ⟨s₂, o, stp _ h1, r2⟩
theorem Walk.putF {R0 O n d host C : String} {index kk : Nat} {ty : FieldType} {a : Addr} {v old : Value} (w : (Cond.fieldLink own index R0 n d).before a0 Z = true ∨ (Cond.fieldLinkNest own index R0 n d host).before a0 Z = true) (via : Via Z R0 O n d) (F : Fld Z h a O n d old) (E : Exa Z h a C)
    (L : (Cond.lays C O n d).before a0 Z = true ∨ ((Cond.laysFinal C O n d).before a0 Z = true ∧ own = O ∧ nm = "<init>")) (wi : (Cond.instantiable C kk).before a0 Z = true) (hty : parseFieldDescriptor d = some ty) (hn : narrow ty v = v) (hf : fits ty v = true) (hd : decode B pc = .ok (.putfield index, 3))
    (hz : Z.heap.size ≤ a) (hw : ws ⟨a, Jvm.RoadKit.slotOf Z O n d⟩) (k : ∀ h', Kq h h' (fun y => y = ⟨a, Jvm.RoadKit.slotOf Z O n d⟩) → Fld Z h' a O n d v → Walk Z own nm rt B ml R h0 W Q ws Ts Li h' cells slots pc' Ls st) (hp : pc + 3 = pc' := by rfl) : Walk Z own nm rt B ml R h0 W Q ws Ts Li h cells slots pc Ls (v :: .ref a :: st) := by
  intro p l e s m args below meth c T locs ho
  obtain ⟨vm0, k0, X, hx, eT, a2, a3, a4, a5, a6, a7, a8, a9, a10, hc, b1, b2, r⟩ := ho
  obtain ⟨T', h', X', e', Wr', stp⟩ := RoadKit.putF X hx a4 a5 w via eT F E (L.imp id fun q => ⟨q.1, q.2.1, b2.trans q.2.2⟩) wi hty hn hf (g := mkF m pc Ls (v :: .ref a :: st)) rfl rfl (hb hc hd)
  subst hp
  obtain ⟨s₂, o, h1, r2⟩ := k h' (Kq.of_wr Wr') (F.same Wr') p l e s m args below meth c T' _ ⟨vm0, k0, X', hx, e', a2, Nat.le_trans a3 (Nat.le_of_eq Wr'.size.symm), a4, a5, a6, Fr.snoc X' a7 hz, fun y hy => (List.mem_append.mp hy).elim (a8 y) fun q => by cases List.mem_singleton.mp q; exact hw, a9, a10, hc, b1, b2, r⟩
  exact ⟨s₂, o, stp _ h1, r2⟩
theorem Walk.newO {C : String} {index n : Nat} (w : (Cond.classLink own index C).before a0 Z = true) (wi : (Cond.instantiable C n).before a0 Z = true) (wz : (Cond.initialized C).before a0 Z = true) (hd : decode B pc = .ok (.new index, 3)) (hc1 : cells + 1 ≤ R.cells) (hl1 : slots + n ≤ R.slots)
    (k : ∀ h' x, h.size ≤ x → h0.size ≤ x → Z.heap.size ≤ x → Kq h h' noW → Exa Z h' x C → (∀ {O nm d : String} {ty : FieldType}, Laid Z a0 C O nm d → parseFieldDescriptor d = some ty → Fld Z h' x O nm d (defaultValue ty)) → Walk Z own nm rt B ml R h0 W Q ws Ts Li h' (cells + 1) (slots + n) pc' Ls (.ref x :: st)) (hp : pc + 3 = pc' := by rfl) :
    Walk Z own nm rt B ml R h0 W Q ws Ts Li h cells slots pc Ls st := by
  intro p l e s m args below meth c T locs ho
  obtain ⟨vm0, k0, X, hx, eT, a2, a3, a4, a5, a6, a7, a8, a9, a10, hc, r⟩ := ho
  obtain ⟨T', h', X', e', E', A', D', -, stp⟩ := RoadKit.newO X hx a4 a5 w wi wz eT (g := mkF m pc Ls st) rfl (hb hc hd) hc1 hl1
  subst hp
  have g1 : h0.size ≤ h.size := by rw [← a9, ← eT]; exact X.same.2.1
  have g2 : Z.heap.size ≤ h.size := Nat.le_trans (by rw [← a9]; exact a10.1) g1
  obtain ⟨s₂, o, h1, r2⟩ := k h' h.size (Nat.le_refl _) g1 g2 (Kq.of_ext E') A' D' p l e s m args below meth c T' locs ⟨vm0, k0, X', hx, e', a2, Nat.le_trans a3 E'.1, a4, a5, a6, a7, a8, a9, a10, hc, r⟩
  exact ⟨s₂, o, stp _ h1, r2⟩
theorem Av.of_new {k : ClassId} {z : Int32} {a : Addr} {ty : FieldType} (A : Arr Z h a (newA k ty z) ty) (q : ¬ z < 0) : Av Z h a ty z.toNatClampNeg (fun _ => defaultValue ty) := by
  refine ⟨_, A, sz_new _ _ _, (back32 q).2, fun i hi => ?_⟩
  simp [newA, hi]
theorem Walk.newA {aty : ArrayType} {n : Int32} (w : (Cond.arrayClass (newarray.typeOf aty)).before a0 Z = true) (hd : decode B pc = .ok (.newarray aty, 2)) (hn : ¬ n < 0) {cap : Nat} (hcap : n.toNatClampNeg ≤ cap) (hb8 : cap * 8 ≤ 536870912) (hc1 : cells + 1 ≤ R.cells) (hl1 : slots + cap ≤ R.slots)
    (k : ∀ h' x, h.size ≤ x → h0.size ≤ x → Z.heap.size ≤ x → Kq h h' noW → Av Z h' x (newarray.typeOf aty) n.toNatClampNeg (fun _ => defaultValue (newarray.typeOf aty)) → (∃ cA, Arv Z h' x cA (newarray.typeOf aty) n [] (defaultValue (newarray.typeOf aty))) → Walk Z own nm rt B ml R h0 W Q ws Ts Li h' (cells + 1) (slots + cap) pc' Ls (.ref x :: st)) (hp : pc + 2 = pc' := by rfl) :
    Walk Z own nm rt B ml R h0 W Q ws Ts Li h cells slots pc Ls (.int n :: st) := by
  intro p l e s m args below meth c T locs ho
  obtain ⟨vm0, k0, X, hx, eT, a2, a3, a4, a5, a6, a7, a8, a9, a10, hc, r⟩ := ho
  obtain ⟨T', h', cA, X', e', E', A', stp⟩ := RoadKit.newP X hx a4 w eT (g := mkF m pc Ls (.int n :: st)) rfl (hb hc hd) rfl hn hcap hb8 hc1 hl1
  subst hp
  have g1 : h0.size ≤ h.size := by rw [← a9, ← eT]; exact X.same.2.1
  have g2 : Z.heap.size ≤ h.size := Nat.le_trans (by rw [← a9]; exact a10.1) g1
  obtain ⟨s₂, o, h1, r2⟩ := k h' h.size (Nat.le_refl _) g1 g2 (Kq.of_ext E') (Av.of_new A' hn) ⟨cA, Arv.new A' hn⟩ p l e s m args below meth c T' locs ⟨vm0, k0, X', hx, e', a2, Nat.le_trans a3 E'.1, a4, a5, a6, a7, a8, a9, a10, hc, r⟩
  exact ⟨s₂, o, stp _ h1, r2⟩
theorem Walk.castY {K : String} {index : Nat} {a : Addr} (w : (Cond.classLink own index K).before a0 Z = true) (F : Ins Z h a K true) (hd : decode B pc = .ok (.checkcast index, 3))
    (k : Walk Z own nm rt B ml R h0 W Q ws Ts Li h cells slots pc' Ls (.ref a :: st)) (hp : pc + 3 = pc' := by rfl) : Walk Z own nm rt B ml R h0 W Q ws Ts Li h cells slots pc Ls (.ref a :: st) := by
  intro p l e s m args below meth c T locs ho
  obtain ⟨vm0, k0, X, hx, eT, a2, a3, a4, a5, a6, a7, a8, a9, a10, hc, r⟩ := ho
  obtain ⟨T', X', e', stp⟩ := RoadKit.castY X hx a4 a5 w eT F (g := mkF m pc Ls (.ref a :: st)) rfl rfl (hb hc hd)
  subst hp
  obtain ⟨s₂, o, h1, r2⟩ := k p l e s m args below meth c T' locs ⟨vm0, k0, X', hx, e', a2, a3, a4, a5, a6, a7, a8, a9, a10, hc, r⟩
  exact ⟨s₂, o, stp _ h1, r2⟩
theorem Walk.instY {K : String} {index : Nat} {a : Addr} (w : (Cond.classLink own index K).before a0 Z = true) (F : Ins Z h a K true) (hd : decode B pc = .ok (.instanceof index, 3))
    (k : Walk Z own nm rt B ml R h0 W Q ws Ts Li h cells slots pc' Ls (.int 1 :: st)) (hp : pc + 3 = pc' := by rfl) : Walk Z own nm rt B ml R h0 W Q ws Ts Li h cells slots pc Ls (.ref a :: st) := by
  intro p l e s m args below meth c T locs ho
  obtain ⟨vm0, k0, X, hx, eT, a2, a3, a4, a5, a6, a7, a8, a9, a10, hc, r⟩ := ho
  obtain ⟨T', X', e', stp⟩ := RoadKit.instY X hx a4 a5 w eT F (g := mkF m pc Ls (.ref a :: st)) rfl rfl (hb hc hd)
  subst hp
  obtain ⟨s₂, o, h1, r2⟩ := k p l e s m args below meth c T' locs ⟨vm0, k0, X', hx, e', a2, a3, a4, a5, a6, a7, a8, a9, a10, hc, r⟩
  exact ⟨s₂, o, stp _ h1, r2⟩
/-! arrays -/
theorem Walk.alen {a : Addr} {ty : FieldType} {n : Nat} {f : Nat → Value} (F : Av Z h a ty n f) (hd : decode B pc = .ok (.arraylength, 1)) {z : Int32} (hz : n.toInt32 = z)
    (k : Walk Z own nm rt B ml R h0 W Q ws Ts Li h cells slots pc' Ls (.int z :: st)) (hp : pc + 1 = pc' := by rfl) : Walk Z own nm rt B ml R h0 W Q ws Ts Li h cells slots pc Ls (.ref a :: st) := by
  intro p l e s m args below meth c T locs ho
  obtain ⟨s₂, o, h1, r2⟩ := k p l e s m args below meth c T locs ho
  obtain ⟨vm0, k0, X, hx, eT, a2, a3, a4, a5, a6, a7, a8, a9, a10, hc, r⟩ := ho
  obtain ⟨cl, A, A1, A2, A3⟩ := F
  subst hp hz A1
  exact ⟨s₂, o, X.arraylength hx (by rw [eT]; exact A.1) (State.isArrayOf_alike a4.alike A.2.1) (g := mkF m pc Ls (.ref a :: st)) rfl rfl (hb hc hd) _ h1, r2⟩
theorem idx_of {j : Int32} {i n : Nat} (hj : j = Int32.ofNat i) (hi : i < n) (hn : n < 2147483648) : ¬ (j < 0 ∨ n ≤ j.toNatClampNeg) ∧ j.toNatClampNeg = i := by
  subst hj
  have q : (Int32.ofNat i).toNatClampNeg = i := by
    have := idx_in (i := i) (n := i + 1) (by omega) (by omega)
    have e : (Int32.ofNat i).toInt = i := Int32.toInt_ofNat_small (by omega)
    show (Int32.ofNat i).toInt.toNat = i
    rw [e]; rfl
  exact ⟨q.symm ▸ fun z => z.elim (fun y => by
    have e : (Int32.ofNat i).toInt = i := Int32.toInt_ofNat_small (by omega)
    rw [Int32.lt_iff_toInt_lt, e] at y
    have : (0 : Int32).toInt = 0 := rfl
    omega) (fun y => by omega), q⟩
theorem Walk.iaload {a : Addr} {n i : Nat} {f : Nat → Value} {j : Int32} {v : Value} (F : Av Z h a .int n f) (hd : decode B pc = .ok (.iaload, 1)) (hj0 : ¬ j < 0) (hj : j.toNatClampNeg = i) (hi : i < n) (hv : f i = v)
    (k : Walk Z own nm rt B ml R h0 W Q ws Ts Li h cells slots pc' Ls (v :: st)) (hp : pc + 1 = pc' := by rfl) : Walk Z own nm rt B ml R h0 W Q ws Ts Li h cells slots pc Ls (.int j :: .ref a :: st) := by
  intro p l e s m args below meth c T locs ho
  obtain ⟨s₂, o, h1, r2⟩ := k p l e s m args below meth c T locs ho
  obtain ⟨vm0, k0, X, hx, eT, a2, a3, a4, a5, a6, a7, a8, a9, a10, hc, r⟩ := ho
  obtain ⟨cl, A, A1, A2, A3⟩ := F
  subst hp hv A1 hj
  exact ⟨s₂, o, X.iaload hx (by rw [eT]; exact A.1) (State.isArrayOf_alike a4.alike A.2.1) A.2.2 (fun q => q.elim hj0 fun q => absurd hi (Nat.not_lt.mpr q)) (A3 _ hi) (g := mkF m pc Ls (.int j :: .ref a :: st)) rfl rfl (hb hc hd) _ h1, r2⟩
theorem Walk.laload {a : Addr} {n i : Nat} {f : Nat → Value} {j : Int32} {v : Value} (F : Av Z h a .long n f) (hd : decode B pc = .ok (.laload, 1)) (hj0 : ¬ j < 0) (hj : j.toNatClampNeg = i) (hi : i < n) (hv : f i = v)
    (k : Walk Z own nm rt B ml R h0 W Q ws Ts Li h cells slots pc' Ls (v :: st)) (hp : pc + 1 = pc' := by rfl) : Walk Z own nm rt B ml R h0 W Q ws Ts Li h cells slots pc Ls (.int j :: .ref a :: st) := by
  intro p l e s m args below meth c T locs ho
  obtain ⟨s₂, o, h1, r2⟩ := k p l e s m args below meth c T locs ho
  obtain ⟨vm0, k0, X, hx, eT, a2, a3, a4, a5, a6, a7, a8, a9, a10, hc, r⟩ := ho
  obtain ⟨cl, A, A1, A2, A3⟩ := F
  subst hp hv A1 hj
  exact ⟨s₂, o, X.laload hx (by rw [eT]; exact A.1) (State.isArrayOf_alike a4.alike A.2.1) A.2.2 (fun q => q.elim hj0 fun q => absurd hi (Nat.not_lt.mpr q)) (A3 _ hi) (g := mkF m pc Ls (.int j :: .ref a :: st)) rfl rfl (hb hc hd) _ h1, r2⟩
theorem Walk.caload {a : Addr} {n i : Nat} {f : Nat → Value} {j : Int32} {v : Value} (F : Av Z h a .char n f) (hd : decode B pc = .ok (.caload, 1)) (hj0 : ¬ j < 0) (hj : j.toNatClampNeg = i) (hi : i < n) (hv : f i = v)
    (k : Walk Z own nm rt B ml R h0 W Q ws Ts Li h cells slots pc' Ls (v :: st)) (hp : pc + 1 = pc' := by rfl) : Walk Z own nm rt B ml R h0 W Q ws Ts Li h cells slots pc Ls (.int j :: .ref a :: st) := by
  intro p l e s m args below meth c T locs ho
  obtain ⟨s₂, o, h1, r2⟩ := k p l e s m args below meth c T locs ho
  obtain ⟨vm0, k0, X, hx, eT, a2, a3, a4, a5, a6, a7, a8, a9, a10, hc, r⟩ := ho
  obtain ⟨cl, A, A1, A2, A3⟩ := F
  subst hp hv A1 hj
  exact ⟨s₂, o, X.caload hx (by rw [eT]; exact A.1) (State.isArrayOf_alike a4.alike A.2.1) A.2.2 (fun q => q.elim hj0 fun q => absurd hi (Nat.not_lt.mpr q)) (A3 _ hi) (g := mkF m pc Ls (.int j :: .ref a :: st)) rfl rfl (hb hc hd) _ h1, r2⟩
theorem Walk.saload {a : Addr} {n i : Nat} {f : Nat → Value} {j : Int32} {v : Value} (F : Av Z h a .short n f) (hd : decode B pc = .ok (.saload, 1)) (hj0 : ¬ j < 0) (hj : j.toNatClampNeg = i) (hi : i < n) (hv : f i = v)
    (k : Walk Z own nm rt B ml R h0 W Q ws Ts Li h cells slots pc' Ls (v :: st)) (hp : pc + 1 = pc' := by rfl) : Walk Z own nm rt B ml R h0 W Q ws Ts Li h cells slots pc Ls (.int j :: .ref a :: st) := by
  intro p l e s m args below meth c T locs ho
  obtain ⟨s₂, o, h1, r2⟩ := k p l e s m args below meth c T locs ho
  obtain ⟨vm0, k0, X, hx, eT, a2, a3, a4, a5, a6, a7, a8, a9, a10, hc, r⟩ := ho
  obtain ⟨cl, A, A1, A2, A3⟩ := F
  subst hp hv A1 hj
  exact ⟨s₂, o, X.saload hx (by rw [eT]; exact A.1) (State.isArrayOf_alike a4.alike A.2.1) A.2.2 (fun q => q.elim hj0 fun q => absurd hi (Nat.not_lt.mpr q)) (A3 _ hi) (g := mkF m pc Ls (.int j :: .ref a :: st)) rfl rfl (hb hc hd) _ h1, r2⟩
theorem Walk.baload {a : Addr} {n i : Nat} {f : Nat → Value} {j : Int32} {v : Value} (F : Av Z h a .byte n f) (hd : decode B pc = .ok (.baload, 1)) (hj0 : ¬ j < 0) (hj : j.toNatClampNeg = i) (hi : i < n) (hv : f i = v)
    (k : Walk Z own nm rt B ml R h0 W Q ws Ts Li h cells slots pc' Ls (v :: st)) (hp : pc + 1 = pc' := by rfl) : Walk Z own nm rt B ml R h0 W Q ws Ts Li h cells slots pc Ls (.int j :: .ref a :: st) := by
  intro p l e s m args below meth c T locs ho
  obtain ⟨s₂, o, h1, r2⟩ := k p l e s m args below meth c T locs ho
  obtain ⟨vm0, k0, X, hx, eT, a2, a3, a4, a5, a6, a7, a8, a9, a10, hc, r⟩ := ho
  obtain ⟨cl, A, A1, A2, A3⟩ := F
  subst hp hv A1 hj
  exact ⟨s₂, o, X.baloadBytes hx (by rw [eT]; exact A.1) (State.isArrayOf_alike a4.alike A.2.1) A.2.2 (fun q => q.elim hj0 fun q => absurd hi (Nat.not_lt.mpr q)) (A3 _ hi) (g := mkF m pc Ls (.int j :: .ref a :: st)) rfl rfl (hb hc hd) _ h1, r2⟩
theorem Walk.zaload {a : Addr} {n i : Nat} {f : Nat → Value} {j : Int32} {v : Value} (F : Av Z h a .boolean n f) (hd : decode B pc = .ok (.baload, 1)) (hj0 : ¬ j < 0) (hj : j.toNatClampNeg = i) (hi : i < n) (hv : f i = v)
    (k : Walk Z own nm rt B ml R h0 W Q ws Ts Li h cells slots pc' Ls (v :: st)) (hp : pc + 1 = pc' := by rfl) : Walk Z own nm rt B ml R h0 W Q ws Ts Li h cells slots pc Ls (.int j :: .ref a :: st) := by
  intro p l e s m args below meth c T locs ho
  obtain ⟨s₂, o, h1, r2⟩ := k p l e s m args below meth c T locs ho
  obtain ⟨vm0, k0, X, hx, eT, a2, a3, a4, a5, a6, a7, a8, a9, a10, hc, r⟩ := ho
  obtain ⟨cl, A, A1, A2, A3⟩ := F
  subst hp hv A1 hj
  exact ⟨s₂, o, X.baloadBooleans hx (by rw [eT]; exact A.1) (State.isArrayOf_alike a4.alike A.2.1) A.2.2 (fun q => q.elim hj0 fun q => absurd hi (Nat.not_lt.mpr q)) (A3 _ hi) (g := mkF m pc Ls (.int j :: .ref a :: st)) rfl rfl (hb hc hd) _ h1, r2⟩
theorem Walk.aaload {a : Addr} {ty : FieldType} {n i : Nat} {f : Nat → Value} {j : Int32} {v : Value} (F : Av Z h a ty n f) (hty : ty.isReference = true) (hd : decode B pc = .ok (.aaload, 1)) (hj0 : ¬ j < 0) (hj : j.toNatClampNeg = i) (hi : i < n) (hv : f i = v)
    (k : Walk Z own nm rt B ml R h0 W Q ws Ts Li h cells slots pc' Ls (v :: st)) (hp : pc + 1 = pc' := by rfl) : Walk Z own nm rt B ml R h0 W Q ws Ts Li h cells slots pc Ls (.int j :: .ref a :: st) := by
  intro p l e s m args below meth c T locs ho
  obtain ⟨s₂, o, h1, r2⟩ := k p l e s m args below meth c T locs ho
  obtain ⟨vm0, k0, X, hx, eT, a2, a3, a4, a5, a6, a7, a8, a9, a10, hc, r⟩ := ho
  obtain ⟨cl, A, A1, A2, A3⟩ := F
  subst hp hv A1 hj
  exact ⟨s₂, o, X.aaload hx (by rw [eT]; exact A.1) (State.isArrayOf_alike a4.alike A.2.1) hty A.2.2 (fun q => q.elim hj0 fun q => absurd hi (Nat.not_lt.mpr q)) (A3 _ hi) (g := mkF m pc Ls (.int j :: .ref a :: st)) rfl rfl (hb hc hd) _ h1, r2⟩
theorem Av.wr {a : Addr} {ty : FieldType} {n i : Nat} {f : Nat → Value} {v : Value} {h' : Heap} (F : Av Z h a ty n f) (Wr' : Wr h h' a i v) : Av Z h' a ty n (fun k => if k = i then v else f k) := by
  obtain ⟨cl, A, A1, A2, A3⟩ := F
  refine ⟨_, A.same Wr', by simp [Cell.setSlot, A1], A2, fun k hk => ?_⟩
  obtain ⟨_, _, _, hlt, -⟩ := Wr'
  by_cases e : k = i
  · subst e
    simp [Cell.setSlot, A1, hk]
  · show _ = some (if k = i then v else f k)
    rw [if_neg e]
    simp only [Cell.setSlot]
    rw [Array.getElem?_setIfInBounds_ne (Ne.symm e)]; exact A3 k hk
theorem Walk.iastore {a : Addr} {n i : Nat} {f : Nat → Value} {j : Int32} {x : Int32} (F : Av Z h a .int n f) (hd : decode B pc = .ok (.iastore, 1)) (hj0 : ¬ j < 0) (hj : j.toNatClampNeg = i) (hi : i < n) (hz : Z.heap.size ≤ a) (hw : ws ⟨a, i⟩)
    (k : ∀ h', Kq h h' (fun y => y = ⟨a, i⟩) → Av Z h' a .int n (fun k => if k = i then .int x else f k) → Wr h h' a i (.int x) → Walk Z own nm rt B ml R h0 W Q ws Ts Li h' cells slots pc' Ls st) (hp : pc + 1 = pc' := by rfl) : Walk Z own nm rt B ml R h0 W Q ws Ts Li h cells slots pc Ls (.int x :: .int j :: .ref a :: st) := by
  intro p l e s m args below meth c T locs ho
  obtain ⟨vm0, k0, X, hx, eT, a2, a3, a4, a5, a6, a7, a8, a9, a10, hc, r⟩ := ho
  obtain ⟨cl, A, A1, A2, A3⟩ := id F
  subst hp hj
  obtain ⟨T', h', X', e', Wr', stp⟩ := RoadKit.stI X hx a4 eT A (x := x) (fun q => q.elim hj0 fun q => absurd hi (Nat.not_lt.mpr (A1 ▸ q))) (g := mkF m pc Ls (.int x :: .int j :: .ref a :: st)) rfl rfl (hb hc hd)
  obtain ⟨s₂, o, h1, r2⟩ := k h' (Kq.of_wr Wr') (F.wr Wr') Wr' p l e s m args below meth c T' _ ⟨vm0, k0, X', hx, e', a2, Nat.le_trans a3 (Nat.le_of_eq Wr'.size.symm), a4, a5, a6, Fr.snoc X' a7 hz, fun y hy => (List.mem_append.mp hy).elim (a8 y) fun q => by cases List.mem_singleton.mp q; exact hw, a9, a10, hc, r⟩
  exact ⟨s₂, o, stp _ h1, r2⟩
theorem Walk.lastore {a : Addr} {n i : Nat} {f : Nat → Value} {j : Int32} {x : Int64} (F : Av Z h a .long n f) (hd : decode B pc = .ok (.lastore, 1)) (hj0 : ¬ j < 0) (hj : j.toNatClampNeg = i) (hi : i < n) (hz : Z.heap.size ≤ a) (hw : ws ⟨a, i⟩)
    (k : ∀ h', Kq h h' (fun y => y = ⟨a, i⟩) → Av Z h' a .long n (fun k => if k = i then .long x else f k) → Wr h h' a i (.long x) → Walk Z own nm rt B ml R h0 W Q ws Ts Li h' cells slots pc' Ls st) (hp : pc + 1 = pc' := by rfl) : Walk Z own nm rt B ml R h0 W Q ws Ts Li h cells slots pc Ls (.long x :: .int j :: .ref a :: st) := by
  intro p l e s m args below meth c T locs ho
  obtain ⟨vm0, k0, X, hx, eT, a2, a3, a4, a5, a6, a7, a8, a9, a10, hc, r⟩ := ho
  obtain ⟨cl, A, A1, A2, A3⟩ := id F
  subst hp hj
  obtain ⟨T', h', X', e', Wr', stp⟩ := RoadKit.stJ X hx a4 eT A (x := x) (fun q => q.elim hj0 fun q => absurd hi (Nat.not_lt.mpr (A1 ▸ q))) (g := mkF m pc Ls (.long x :: .int j :: .ref a :: st)) rfl rfl (hb hc hd)
  obtain ⟨s₂, o, h1, r2⟩ := k h' (Kq.of_wr Wr') (F.wr Wr') Wr' p l e s m args below meth c T' _ ⟨vm0, k0, X', hx, e', a2, Nat.le_trans a3 (Nat.le_of_eq Wr'.size.symm), a4, a5, a6, Fr.snoc X' a7 hz, fun y hy => (List.mem_append.mp hy).elim (a8 y) fun q => by cases List.mem_singleton.mp q; exact hw, a9, a10, hc, r⟩
  exact ⟨s₂, o, stp _ h1, r2⟩
theorem Walk.castore {a : Addr} {n i : Nat} {f : Nat → Value} {j : Int32} {x : Int32} (F : Av Z h a .char n f) (hd : decode B pc = .ok (.castore, 1)) (hj0 : ¬ j < 0) (hj : j.toNatClampNeg = i) (hi : i < n) (hz : Z.heap.size ≤ a) (hw : ws ⟨a, i⟩)
    (k : ∀ h', Kq h h' (fun y => y = ⟨a, i⟩) → Av Z h' a .char n (fun k => if k = i then .int (nar .char x) else f k) → Wr h h' a i (.int (nar .char x)) → Walk Z own nm rt B ml R h0 W Q ws Ts Li h' cells slots pc' Ls st) (hp : pc + 1 = pc' := by rfl) : Walk Z own nm rt B ml R h0 W Q ws Ts Li h cells slots pc Ls (.int x :: .int j :: .ref a :: st) := by
  intro p l e s m args below meth c T locs ho
  obtain ⟨vm0, k0, X, hx, eT, a2, a3, a4, a5, a6, a7, a8, a9, a10, hc, r⟩ := ho
  obtain ⟨cl, A, A1, A2, A3⟩ := id F
  subst hp hj
  obtain ⟨T', h', X', e', Wr', stp⟩ := RoadKit.stC X hx a4 eT A (x := x) (fun q => q.elim hj0 fun q => absurd hi (Nat.not_lt.mpr (A1 ▸ q))) (g := mkF m pc Ls (.int x :: .int j :: .ref a :: st)) rfl rfl (hb hc hd)
  obtain ⟨s₂, o, h1, r2⟩ := k h' (Kq.of_wr Wr') (F.wr Wr') Wr' p l e s m args below meth c T' _ ⟨vm0, k0, X', hx, e', a2, Nat.le_trans a3 (Nat.le_of_eq Wr'.size.symm), a4, a5, a6, Fr.snoc X' a7 hz, fun y hy => (List.mem_append.mp hy).elim (a8 y) fun q => by cases List.mem_singleton.mp q; exact hw, a9, a10, hc, r⟩
  exact ⟨s₂, o, stp _ h1, r2⟩
theorem Walk.sastore {a : Addr} {n i : Nat} {f : Nat → Value} {j : Int32} {x : Int32} (F : Av Z h a .short n f) (hd : decode B pc = .ok (.sastore, 1)) (hj0 : ¬ j < 0) (hj : j.toNatClampNeg = i) (hi : i < n) (hz : Z.heap.size ≤ a) (hw : ws ⟨a, i⟩)
    (k : ∀ h', Kq h h' (fun y => y = ⟨a, i⟩) → Av Z h' a .short n (fun k => if k = i then .int (nar .short x) else f k) → Wr h h' a i (.int (nar .short x)) → Walk Z own nm rt B ml R h0 W Q ws Ts Li h' cells slots pc' Ls st) (hp : pc + 1 = pc' := by rfl) : Walk Z own nm rt B ml R h0 W Q ws Ts Li h cells slots pc Ls (.int x :: .int j :: .ref a :: st) := by
  intro p l e s m args below meth c T locs ho
  obtain ⟨vm0, k0, X, hx, eT, a2, a3, a4, a5, a6, a7, a8, a9, a10, hc, r⟩ := ho
  obtain ⟨cl, A, A1, A2, A3⟩ := id F
  subst hp hj
  obtain ⟨T', h', X', e', Wr', stp⟩ := RoadKit.stS X hx a4 eT A (x := x) (fun q => q.elim hj0 fun q => absurd hi (Nat.not_lt.mpr (A1 ▸ q))) (g := mkF m pc Ls (.int x :: .int j :: .ref a :: st)) rfl rfl (hb hc hd)
  obtain ⟨s₂, o, h1, r2⟩ := k h' (Kq.of_wr Wr') (F.wr Wr') Wr' p l e s m args below meth c T' _ ⟨vm0, k0, X', hx, e', a2, Nat.le_trans a3 (Nat.le_of_eq Wr'.size.symm), a4, a5, a6, Fr.snoc X' a7 hz, fun y hy => (List.mem_append.mp hy).elim (a8 y) fun q => by cases List.mem_singleton.mp q; exact hw, a9, a10, hc, r⟩
  exact ⟨s₂, o, stp _ h1, r2⟩
theorem Walk.bastore {a : Addr} {n i : Nat} {f : Nat → Value} {j : Int32} {x : Int32} (F : Av Z h a .byte n f) (hd : decode B pc = .ok (.bastore, 1)) (hj0 : ¬ j < 0) (hj : j.toNatClampNeg = i) (hi : i < n) (hz : Z.heap.size ≤ a) (hw : ws ⟨a, i⟩)
    (k : ∀ h', Kq h h' (fun y => y = ⟨a, i⟩) → Av Z h' a .byte n (fun k => if k = i then .int (nar .byte x) else f k) → Wr h h' a i (.int (nar .byte x)) → Walk Z own nm rt B ml R h0 W Q ws Ts Li h' cells slots pc' Ls st) (hp : pc + 1 = pc' := by rfl) : Walk Z own nm rt B ml R h0 W Q ws Ts Li h cells slots pc Ls (.int x :: .int j :: .ref a :: st) := by
  intro p l e s m args below meth c T locs ho
  obtain ⟨vm0, k0, X, hx, eT, a2, a3, a4, a5, a6, a7, a8, a9, a10, hc, r⟩ := ho
  obtain ⟨cl, A, A1, A2, A3⟩ := id F
  subst hp hj
  obtain ⟨T', h', X', e', Wr', stp⟩ := RoadKit.stB X hx a4 eT A (x := x) (fun q => q.elim hj0 fun q => absurd hi (Nat.not_lt.mpr (A1 ▸ q))) (g := mkF m pc Ls (.int x :: .int j :: .ref a :: st)) rfl rfl (hb hc hd)
  obtain ⟨s₂, o, h1, r2⟩ := k h' (Kq.of_wr Wr') (F.wr Wr') Wr' p l e s m args below meth c T' _ ⟨vm0, k0, X', hx, e', a2, Nat.le_trans a3 (Nat.le_of_eq Wr'.size.symm), a4, a5, a6, Fr.snoc X' a7 hz, fun y hy => (List.mem_append.mp hy).elim (a8 y) fun q => by cases List.mem_singleton.mp q; exact hw, a9, a10, hc, r⟩
  exact ⟨s₂, o, stp _ h1, r2⟩
theorem Walk.zastore {a : Addr} {n i : Nat} {f : Nat → Value} {j : Int32} {x : Int32} (F : Av Z h a .boolean n f) (hd : decode B pc = .ok (.bastore, 1)) (hj0 : ¬ j < 0) (hj : j.toNatClampNeg = i) (hi : i < n) (hz : Z.heap.size ≤ a) (hw : ws ⟨a, i⟩)
    (k : ∀ h', Kq h h' (fun y => y = ⟨a, i⟩) → Av Z h' a .boolean n (fun k => if k = i then .int (nar .boolean x) else f k) → Wr h h' a i (.int (nar .boolean x)) → Walk Z own nm rt B ml R h0 W Q ws Ts Li h' cells slots pc' Ls st) (hp : pc + 1 = pc' := by rfl) : Walk Z own nm rt B ml R h0 W Q ws Ts Li h cells slots pc Ls (.int x :: .int j :: .ref a :: st) := by
  intro p l e s m args below meth c T locs ho
  obtain ⟨vm0, k0, X, hx, eT, a2, a3, a4, a5, a6, a7, a8, a9, a10, hc, r⟩ := ho
  obtain ⟨cl, A, A1, A2, A3⟩ := id F
  subst hp hj
  obtain ⟨T', h', X', e', Wr', stp⟩ := RoadKit.stZ X hx a4 eT A (x := x) (fun q => q.elim hj0 fun q => absurd hi (Nat.not_lt.mpr (A1 ▸ q))) (g := mkF m pc Ls (.int x :: .int j :: .ref a :: st)) rfl rfl (hb hc hd)
  obtain ⟨s₂, o, h1, r2⟩ := k h' (Kq.of_wr Wr') (F.wr Wr') Wr' p l e s m args below meth c T' _ ⟨vm0, k0, X', hx, e', a2, Nat.le_trans a3 (Nat.le_of_eq Wr'.size.symm), a4, a5, a6, Fr.snoc X' a7 hz, fun y hy => (List.mem_append.mp hy).elim (a8 y) fun q => by cases List.mem_singleton.mp q; exact hw, a9, a10, hc, r⟩
  exact ⟨s₂, o, stp _ h1, r2⟩
/-! ### calls -/
/-- who pays a call -/
def Pay (Z : State) (y : MethodName) (R : Room) (len Wd : Nat) (as : List Value) (h : Heap) (Ts : TsT) (Li : LiT) (k n : Nat) (V : Loc → Prop) (P : QT) : Prop :=
  ∀ l p e below s args, Z.Warmed39 s.vm → LS Z s.vm Ts Li → Ext Z.heap h → BackS l R p e below s args y len Wd (fun A a => a = as.toArray ∧ A.U.heap = h ∧ A.cells + k ≤ R.cells ∧ A.slots + n ≤ R.slots)
    (fun A _ v B => ∃ L Ts' Li', P v B.U.heap Ts' Li' ∧ LS Z B.U.vm Ts' Li' ∧ Fr Z.heap.size L ∧ (∀ y ∈ L, Fw h V y) ∧ Kq h B.U.heap V ∧ B.locs = A.locs ++ L ∧ B.cells = A.cells + k ∧ B.slots = A.slots + n)
theorem Kq.of_end {s t : State} {o : Outcome} {L : List Loc} {k n : Nat} {V : Loc → Prop} (hE : ReturnedEndW s o t L k n) (q : ∀ y ∈ L, Fw s.heap V y) : Kq s.heap t.heap V := by
  obtain ⟨-, -, -, hs⟩ := hE
  refine ⟨hs.2.1, fun a cl hcl => ?_⟩
  obtain ⟨c', h1, h2, h3, h4⟩ := hs.2.2.2.2.2 a cl hcl
  have hlt := (Array.getElem?_eq_some_iff.mp hcl).1
  refine ⟨c', h1, by rw [h2], by rw [h2], h3, fun i hi => h4 i fun hm => ?_⟩
  rcases q _ hm with r | r
  · exact absurd r (Nat.not_le.mpr hlt)
  · exact hi r
theorem Con.pay {y : MethodName} {bytes : ByteArray} {maxL : Nat} {ret : Option FieldType} {rm : Room} {as : List Value} {V : Loc → Prop} {P : QT} {len Wd : Nat} (hM : Con Z y bytes maxL ret rm as h Ts Li V P) (wc : (Cond.code y bytes maxL ret).before a0 Z = true) (wz : (Cond.initialized y.cls).before a0 Z = true)
    (hf : rm.frames + 1 ≤ R.frames) (hl : Wd + (maxL + 11) + rm.locals ≤ R.locals) : Pay Z y R len Wd as h Ts Li rm.cells rm.slots V P := by
  intro l p e below s args hZ hL hE
  exact BackS.of_freeW (bytes := bytes) (maxL := maxL) (ret := ret) (E := fun _ first o t L k n => k = rm.cells ∧ n = rm.slots ∧ ∃ v Ts' Li', o = .returned v ∧ P v t.heap Ts' Li' ∧ LS Z t.vm Ts' Li' ∧ Fr Z.heap.size L ∧ (∀ y ∈ L, Fw h V y)) (hM l []) hf hl
    (fun m meth c A a Y hp => have hU : Z.Warmed39 A.U.vm := wtrans hZ Y.warmed
      ⟨by show (Cond.and _ .tt).before a A.U = true; rw [Cond.before_and, mv hU wc]; rfl, mv hU wc, mv hU wz, hp.2.2.1, hp.2.2.2⟩)
    (fun m meth c A a g mk Y hp => ⟨hp.1, wtrans hZ Y.warmed, hp.2.1, by rw [show (A.U.calling g mk a).heap = A.U.heap from rfl, hp.2.1]; exact hE, LS.warm (s := s) hL Y.warmed⟩) (fun _ _ _ _ _ _ _ _ _ => trivial)
    (fun _ _ _ _ ⟨v, L, Ts', Li', h1, h2, h3, h4, h5, h6⟩ => ⟨L, _, _, h6, rfl, rfl, v, Ts', Li', h1, h2, h3, h4, h5⟩)
    (fun m meth c A a g mk v t L k n Y hp hq hr ⟨e1, e2, v', Ts', Li', e3, e4, e5, e6, e7⟩ => by
      cases e3; subst e1 e2
      have e0 : (A.U.calling g mk a).heap = h := hp.2.1
      have e8 : Kq h t.heap V := e0 ▸ Kq.of_end hr (e0 ▸ e7)
      exact ⟨L, Ts', Li', e4, e5, e6, e7, e8, rfl, rfl, rfl⟩)
/-- a payer of the library's own (it interns nothing) -/
theorem Pay.of_back {y : MethodName} {len Wd : Nat} {as : List Value} {k n : Nat} {P : Option Value → Heap → List Loc → Prop} {V : Loc → Prop}
    (hB : ∀ l p e below s args, Z.Warmed39 s.vm → Back l R p e below s args y len Wd (fun A a => a = as.toArray ∧ A.U.heap = h ∧ A.cells + k ≤ R.cells ∧ A.slots + n ≤ R.slots) (fun A _ v B => ∃ L, P v B.U.heap L ∧ B.locs = A.locs ++ L ∧ B.cells = A.cells + k ∧ B.slots = A.slots + n))
    (hK : ∀ v h' L, P v h' L → Fr Z.heap.size L ∧ (∀ y ∈ L, Fw h V y) ∧ Kq h h' V) : Pay Z y R len Wd as h Ts Li k n V (fun v h' Ts' Li' => (∃ L, P v h' L) ∧ Ts' = Ts ∧ Li' = Li) := by
  intro l p e below s args hZ hL hE m meth c A g ig mk a X hg hsize hdg hW hn hp
  obtain ⟨v, B, X', ⟨L, hq, e1, e2, e3⟩, hst⟩ := hB l p e below s args hZ m meth c A g ig mk a X hg hsize hdg hW hn hp
  obtain ⟨k1, k2, k3⟩ := hK _ _ _ hq
  exact ⟨v, B, X'.retabled X'.warmed.wide, X'.warmed.since _, by rw [hp.2.1]; exact k3.1, ⟨L, Ts, Li, ⟨⟨L, hq⟩, rfl, rfl⟩, LS.warm (s := s) hL X'.warmed, k1, k2, k3, e1, e2, e3⟩, hst⟩
theorem Pay.mono {y : MethodName} {len Wd : Nat} {as : List Value} {k n : Nat} {P P' : QT} {V : Loc → Prop} (hP : Pay Z y R len Wd as h Ts Li k n V P) (hq : ∀ v h' Ts' Li', Kq h h' V → P v h' Ts' Li' → P' v h' Ts' Li') : Pay Z y R len Wd as h Ts Li k n V P' := by
  intro l p e below s args hZ hL hE m meth c A g ig mk a X hg hsize hdg hW hn hp
  obtain ⟨v, B, X', r1, r2, ⟨L, Ts', Li', q1, q2, q3, q4, q5, q6⟩, hst⟩ := hP l p e below s args hZ hL hE m meth c A g ig mk a X hg hsize hdg hW hn hp
  exact ⟨v, B, X', r1, r2, ⟨L, Ts', Li', hq _ _ _ _ q5 q1, q2, q3, q4, q5, q6⟩, hst⟩
/-- behind a call: the walk stands again -/
theorem On.after {p : Program} {l : Launch} {e : Env} {s : State} {m : MethodId} {args : Array Value} {below : List Frame} {meth : Method} {c : Code} {T : State} {locs : List Loc} {k n : Nat} {V : Loc → Prop} {vm0 : Vm} {k0 : Nat}
    (hx : p.tables.exec = Jvm.exec) (eT : T.heap = h) (a2 : s.Since vm0 k0) (a3 : k0 ≤ h.size) (a4 : Z.Warmed39 vm0) (a5 : vm0.findClass own = some m.cls) (a7 : Fr Z.heap.size locs) (a8 : ∀ y ∈ locs, ws y)
    (r : s.heap = h0 ∧ Ext Z.heap s.heap ∧ c.code = B ∧ c.maxLocals = ml ∧ meth.name = nm ∧ meth.sig.returnType = rt ∧ meth.locks = false) (hv : ∀ y, Fw h V y → ws y)
    {BU : State} {Bl : List Loc} {Bc Bs : Nat} (X' : Stand p l e R ((s.setVm vm0).setVm BU.vm) m args below meth c BU Bl Bc Bs) (hS : (s.setVm vm0).Since BU.vm BU.heap.size) (hg : T.heap.size ≤ BU.heap.size)
    {L : List Loc} {Ts' : TsT} {Li' : LiT} (q2 : LS Z BU.vm Ts' Li') (q3 : Fr Z.heap.size L) (q4 : ∀ y ∈ L, Fw h V y) (e1 : Bl = locs ++ L) (e2 : Bc = cells + k) (e3 : Bs = slots + n) :
    On Z own nm rt B ml R h0 ws p l e s m args below meth c Ts' Li' BU BU.heap (locs ++ L) (cells + k) (slots + n) := by
  subst e1 e2 e3
  exact ⟨BU.vm, BU.heap.size, X', hx, rfl, a2.trans hS (Nat.le_trans a3 (eT ▸ hg)), Nat.le_refl _, State.Warmed39.trans (t := s.setVm vm0) a4 hS.1, (hS.1.alike.findClass _ _).trans a5, q2, Fr.app a7 q3, fun y hy => (List.mem_append.mp hy).elim (a8 y) fun q => hv _ (q4 y q), r⟩
theorem Walk.callS {index : Nat} {y : MethodName} {bytes : ByteArray} {maxL : Nat} {ret : Option FieldType} {Wd : Nat} {as rest : List Value} {k n : Nat} {V : Loc → Prop} {P : QT}
    (wl : (Cond.methodLink own index y).before a0 Z = true) (ws1 : (Cond.static y).before a0 Z = true) (wi : (Cond.initialized y.cls).before a0 Z = true) (wc : (Cond.code y bytes maxL ret).before a0 Z = true) (hP : Pay Z y R 3 Wd as h Ts Li k n V P)
    (hlen : ∀ sig, parseMethodDescriptor y.desc = some sig → as.length = sig.parameters.length) (hd : decode B pc = .ok (.invokestatic index, 3)) (hst : st = as.reverse ++ rest) (hW : (rest.map fun v => v.category).sum ≤ Wd) (hsz : Ls.size = ml) (hc1 : cells + k ≤ R.cells) (hl1 : slots + n ≤ R.slots) (hv : h0.size ≤ h.size → ∀ y, Fw h V y → ws y)
    (kk : ∀ v h' Ts' Li', P v h' Ts' Li' → Kq h h' V → Walk Z own nm rt B ml R h0 W Q ws Ts' Li' h' (cells + k) (slots + n) pc' Ls (v.toList ++ rest)) (hy : y.cls ≠ "java/lang/invoke/MethodHandle" ∧ y.cls ≠ "java/lang/invoke/VarHandle" := by decide) (hp : pc + 3 = pc' := by rfl) :
    Walk Z own nm rt B ml R h0 W Q ws Ts Li h cells slots pc Ls st := by
  refine Walk.old fun E => ?_
  intro p l e s m args below meth c T locs ho
  obtain ⟨vm0, k0, X, hx, eT, a2, a3, a4, a5, a6, a7, a8, a9, a10, hc, b1, r⟩ := ho
  obtain ⟨v, vm₁, B', -, X', hS, hg, ⟨L, Ts', Li', q1, q2, q3, q4, q5, e1, e2, e3⟩, stp⟩ := RoadKit.callSS X hx (y := y) a5 (mvT a4 wl) (mvT a4 ws1) (mvT a4 wi) (mvT a4 wc) hy (hP l p e below _ args a4 a6 E) (g := mkF m pc Ls st) rfl (hsz.trans b1.symm) (argsL := as) (rest := rest) hlen hst (by show 2 * 0 + _ ≤ _; omega) (hb hc hd) (fun _ _ => ⟨rfl, eT, hc1, hl1⟩)
  subst hp
  obtain ⟨s₂, o, h1, r2⟩ := kk v _ Ts' Li' q1 q5 p l e s m args below meth c B'.U _ (On.after (k := k) (n := n) hx eT a2 a3 a4 a5 a7 a8 ⟨a9, a10, hc, b1, r⟩ (hv (by rw [← a9, ← eT]; exact X.same.2.1)) X' hS hg q2 q3 q4 e1 e2 e3)
  exact ⟨s₂, o, stp.trans h1, r2⟩
theorem Walk.callI {index : Nat} {y : MethodName} {bytes : ByteArray} {maxL : Nat} {Wd : Nat} {a : Addr} {as rest : List Value} {k n : Nat} {V : Loc → Prop} {P : QT}
    (wl : (Cond.methodLink own index y).before a0 Z = true) (ws1 : (Cond.instanceMethod y).before a0 Z = true) (wc : (Cond.code y bytes maxL none).before a0 Z = true) (hP : Pay Z y R 3 Wd (.ref a :: as) h Ts Li k n V P)
    (hlen : ∀ sig, parseMethodDescriptor y.desc = some sig → as.length = sig.parameters.length) (hd : decode B pc = .ok (.invokespecial index, 3)) (hst : st = as.reverse ++ .ref a :: rest) (hW : (rest.map fun v => v.category).sum ≤ Wd) (hsz : Ls.size = ml) (hc1 : cells + k ≤ R.cells) (hl1 : slots + n ≤ R.slots) (hv : h0.size ≤ h.size → ∀ y, Fw h V y → ws y)
    (kk : ∀ v h' Ts' Li', P v h' Ts' Li' → Kq h h' V → Walk Z own nm rt B ml R h0 W Q ws Ts' Li' h' (cells + k) (slots + n) pc' Ls (v.toList ++ rest)) (hy1 : y.name = "<init>" := by rfl) (hy : y.cls ≠ "java/lang/invoke/MethodHandle" ∧ y.cls ≠ "java/lang/invoke/VarHandle" := by decide) (hp : pc + 3 = pc' := by rfl) :
    Walk Z own nm rt B ml R h0 W Q ws Ts Li h cells slots pc Ls st := by
  refine Walk.old fun E => ?_
  intro p l e s m args below meth c T locs ho
  obtain ⟨vm0, k0, X, hx, eT, a2, a3, a4, a5, a6, a7, a8, a9, a10, hc, b1, r⟩ := ho
  obtain ⟨v, vm₁, B', -, X', hS, hg, ⟨L, Ts', Li', q1, q2, q3, q4, q5, e1, e2, e3⟩, stp⟩ := X.specialBackS hx (y := y) hy1 a5 (mvT a4 wl) (mvT a4 ws1) (mvT a4 wc) hy (hP l p e below _ args a4 a6 E) (g := mkF m pc Ls st) rfl (hsz.trans b1.symm) (Steps.refl _) (a := a) (argsL := as) (rest := rest) hlen hst (by show 2 * 0 + _ ≤ _; omega) (hb hc hd) (fun _ _ => ⟨rfl, eT, hc1, hl1⟩)
  subst hp
  obtain ⟨s₂, o, h1, r2⟩ := kk v _ Ts' Li' q1 q5 p l e s m args below meth c B'.U _ (On.after (k := k) (n := n) hx eT a2 a3 a4 a5 a7 a8 ⟨a9, a10, hc, b1, r⟩ (hv (by rw [← a9, ← eT]; exact X.same.2.1)) X' hS hg q2 q3 q4 e1 e2 e3)
  exact ⟨s₂, o, stp.trans h1, r2⟩
theorem Walk.callV {index : Nat} {C : String} {y z : MethodName} {Wd : Nat} {a : Addr} {as rest : List Value} {k n : Nat} {V : Loc → Prop} {P : QT}
    (wl : (Cond.methodLink own index y).before a0 Z = true) (wd : (Cond.declares y).before a0 Z = true) (wf : (Cond.selects y.cls y y).before a0 Z = true) (wsl : (Cond.selects C y z).before a0 Z = true) (wim : (Cond.instanceMethod z).before a0 Z = true) (Ex : Exa Z h a C) (hP : Pay Z z R 3 Wd (.ref a :: as) h Ts Li k n V P)
    (hlen : ∀ sig, parseMethodDescriptor y.desc = some sig → as.length = sig.parameters.length) (hd : decode B pc = .ok (.invokevirtual index, 3)) (hst : st = as.reverse ++ .ref a :: rest) (hW : (rest.map fun v => v.category).sum ≤ Wd) (hsz : Ls.size = ml) (hc1 : cells + k ≤ R.cells) (hl1 : slots + n ≤ R.slots) (hv : h0.size ≤ h.size → ∀ y, Fw h V y → ws y)
    (kk : ∀ v h' Ts' Li', P v h' Ts' Li' → Kq h h' V → Walk Z own nm rt B ml R h0 W Q ws Ts' Li' h' (cells + k) (slots + n) pc' Ls (v.toList ++ rest)) (hy : y.cls ≠ "java/lang/invoke/MethodHandle" ∧ y.cls ≠ "java/lang/invoke/VarHandle" := by decide) (hp : pc + 3 = pc' := by rfl) :
    Walk Z own nm rt B ml R h0 W Q ws Ts Li h cells slots pc Ls st := by
  refine Walk.old fun E => ?_
  intro p l e s m args below meth c T locs ho
  obtain ⟨vm0, k0, X, hx, eT, a2, a3, a4, a5, a6, a7, a8, a9, a10, hc, b1, r⟩ := ho
  obtain ⟨cB, kB, i1, i2, i3⟩ := isOf (s := s.setVm vm0) a4 eT Ex
  obtain ⟨v, vm₁, B', -, X', hS, hg, ⟨L, Ts', Li', q1, q2, q3, q4, q5, e1, e2, e3⟩, stp⟩ := X.virtualBackS hx (y := y) (z := z) a5 (mvT a4 wl) (mvT a4 wd) (notFace_of_selects (args := #[]) (mvT a4 wf)) (mvT a4 wsl) (mvT a4 wim) hy (hP l p e below _ args a4 a6 E) i1 i3 (g := mkF m pc Ls st) rfl (hsz.trans b1.symm) (Steps.refl _) (argsL := as) (rest := rest) hlen hst (by show 2 * 0 + _ ≤ _; omega) (hb hc hd) (fun _ _ => ⟨rfl, eT, hc1, hl1⟩)
  subst hp
  obtain ⟨s₂, o, h1, r2⟩ := kk v _ Ts' Li' q1 q5 p l e s m args below meth c B'.U _ (On.after (k := k) (n := n) hx eT a2 a3 a4 a5 a7 a8 ⟨a9, a10, hc, b1, r⟩ (hv (by rw [← a9, ← eT]; exact X.same.2.1)) X' hS hg q2 q3 q4 e1 e2 e3)
  exact ⟨s₂, o, stp.trans h1, r2⟩
/-- Object.<init> -/
theorem Walk.initO {index : Nat} {a : Addr} (w1 : (Cond.methodLink own index Lib.objectInit).before a0 Z = true) (w2 : (Cond.instanceMethod Lib.objectInit).before a0 Z = true) (w3 : (Cond.code Lib.objectInit ⟨#[0xb1]⟩ 1 none).before a0 Z = true)
    (hd : decode B pc = .ok (.invokespecial index, 3)) (hsz : Ls.size = ml) {Wd : Nat} (hW : (st.map fun v => v.category).sum ≤ Wd) (hfr : 1 ≤ R.frames) (hlo : Wd + 12 ≤ R.locals) (k : Walk Z own nm rt B ml R h0 W Q ws Ts Li h cells slots pc' Ls st) (hp : pc + 3 = pc' := by rfl) : Walk Z own nm rt B ml R h0 W Q ws Ts Li h cells slots pc Ls (.ref a :: st) := by
  intro p l e s m args below meth c T locs ho
  obtain ⟨vm0, k0, X, hx, eT, a2, a3, a4, a5, a6, a7, a8, a9, a10, hc, b1, r⟩ := ho
  obtain ⟨T', X', e', stp⟩ := RoadKit.initO X hx a4 a5 w1 w2 w3 eT (g := mkF m pc Ls (.ref a :: st)) rfl (hsz.trans b1.symm) rfl (hb hc hd) hfr (W := Wd) (by show 2 * 0 + _ ≤ _; omega) hlo
  subst hp
  obtain ⟨s₂, o, h1, r2⟩ := k p l e s m args below meth c T' locs ⟨vm0, k0, X', hx, e', a2, a3, a4, a5, a6, a7, a8, a9, a10, hc, b1, r⟩
  exact ⟨s₂, o, stp _ h1, r2⟩
/-! ### constants -/
theorem Walk.ldcI {index : Nat} {v : Int32} (w : (Cond.constant own index v).before a0 Z = true) (hd : decode B pc = .ok (.ldc index, 2)) (k : Walk Z own nm rt B ml R h0 W Q ws Ts Li h cells slots pc' Ls (.int v :: st)) (hp : pc + 2 = pc' := by rfl) : Walk Z own nm rt B ml R h0 W Q ws Ts Li h cells slots pc Ls st := by
  intro p l e s m args below meth c T locs ho
  obtain ⟨s₂, o, h1, r2⟩ := k p l e s m args below meth c T locs ho
  obtain ⟨vm0, k0, X, hx, eT, a2, a3, a4, a5, a6, a7, a8, a9, a10, hc, r⟩ := ho
  subst hp
  exact ⟨s₂, o, X.ldcI (g := mkF m pc Ls st) hx a5 (mvT a4 w) rfl (hb hc hd) h1, r2⟩
theorem Walk.ldcJ {index : Nat} {v : Int64} (w : (Cond.constantLong own index v).before a0 Z = true) (hd : decode B pc = .ok (.ldc2_w index, 3)) (k : Walk Z own nm rt B ml R h0 W Q ws Ts Li h cells slots pc' Ls (.long v :: st)) (hp : pc + 3 = pc' := by rfl) : Walk Z own nm rt B ml R h0 W Q ws Ts Li h cells slots pc Ls st := by
  intro p l e s m args below meth c T locs ho
  obtain ⟨s₂, o, h1, r2⟩ := k p l e s m args below meth c T locs ho
  obtain ⟨vm0, k0, X, hx, eT, a2, a3, a4, a5, a6, a7, a8, a9, a10, hc, r⟩ := ho
  subst hp
  exact ⟨s₂, o, X.ldc2J (g := mkF m pc Ls st) hx a5 (mvT a4 w) rfl (hb hc hd) h1, r2⟩
theorem Walk.lswHit {x : Int32} {dflt : Int} {prs : Array (Int × Int)} {len : Nat} {a off : Int} (hd : decode B pc = .ok (.lookupswitch dflt prs, len)) (hso : (prs.toList.zip (prs.toList.drop 1)).all (fun (a, next) => a.1 < next.1) = true) (hf : prs.find? (·.1 == x.toInt) = some (a, off))
    (k : Walk Z own nm rt B ml R h0 W Q ws Ts Li h cells slots pc' Ls st) (ho1 : 0 ≤ (pc : Int) + off := by decide) (hp : ((pc : Int) + off).toNat = pc' := by rfl) : Walk Z own nm rt B ml R h0 W Q ws Ts Li h cells slots pc Ls (.int x :: st) := by
  intro p l e s m args below meth c T locs ho
  obtain ⟨s₂, o, h1, r2⟩ := k p l e s m args below meth c T locs ho
  obtain ⟨vm0, k0, X, hx, eT, a2, a3, a4, a5, a6, a7, a8, a9, a10, hc, r⟩ := ho
  subst hp
  exact ⟨s₂, o, X.lookupswitchHit hx (g := mkF m pc Ls (.int x :: st)) rfl rfl (hb hc hd) hso hf ho1 _ h1, r2⟩
theorem Walk.lswMiss {x : Int32} {dflt : Int} {prs : Array (Int × Int)} {len : Nat} (hd : decode B pc = .ok (.lookupswitch dflt prs, len)) (hso : (prs.toList.zip (prs.toList.drop 1)).all (fun (a, next) => a.1 < next.1) = true) (hf : prs.find? (·.1 == x.toInt) = none)
    (k : Walk Z own nm rt B ml R h0 W Q ws Ts Li h cells slots pc' Ls st) (ho1 : 0 ≤ (pc : Int) + dflt := by decide) (hp : ((pc : Int) + dflt).toNat = pc' := by rfl) : Walk Z own nm rt B ml R h0 W Q ws Ts Li h cells slots pc Ls (.int x :: st) := by
  intro p l e s m args below meth c T locs ho
  obtain ⟨s₂, o, h1, r2⟩ := k p l e s m args below meth c T locs ho
  obtain ⟨vm0, k0, X, hx, eT, a2, a3, a4, a5, a6, a7, a8, a9, a10, hc, r⟩ := ho
  subst hp
  exact ⟨s₂, o, X.lookupswitchMiss hx (g := mkF m pc Ls (.int x :: st)) rfl rfl (hb hc hd) hso hf ho1 _ h1, r2⟩
theorem Walk.tswIn {x : Int32} {dflt low high off : Int} {offs : Array Int} {len : Nat} (hd : decode B pc = .ok (.tableswitch dflt low high offs, len)) (hin : ¬ (x.toInt < low ∨ x.toInt > high)) (hoff : offs[(x.toInt - low).toNat]? = some off)
    (k : Walk Z own nm rt B ml R h0 W Q ws Ts Li h cells slots pc' Ls st) (ho1 : 0 ≤ (pc : Int) + off := by decide) (hp : ((pc : Int) + off).toNat = pc' := by rfl) : Walk Z own nm rt B ml R h0 W Q ws Ts Li h cells slots pc Ls (.int x :: st) :=
  Walk.lift (fun _ _ _ _ _ _ _ h hx hc r => XS.tswIn h hx rfl (pc0 := pc) (pc' := pc') rfl (hb hc hd) rfl hin hoff ho1 hp r) k
/-- a String constant's load that nobody has made since the law's start: its text is known -/
theorem Walk.ldcNew {index : Nat} {text : String} {Tl : List String} (w : (Cond.stringLink own index text).before a0 Z = true) (wS : ∀ a ∈ Bundle.stringAtoms, a.before a0 Z = true) (hh : Jvm.Lit.constHeld Z own index) (hcw : Jvm.Lit.compactW.before a0 Z = true) (hTs : Ts = some Tl) (hnot : text ∉ Tl) (hfresh : ∀ y, ws y → h0.size ≤ y.base)
    {vs : List Value} {z : Int32} (ht : (∀ c ∈ text.toList, c.toNat < 256) ∧ text.toList.map (fun c => Value.int (Jvm.Lit.byteI c.toNat.toUInt16)) = vs) (hz : ¬ z < 0) (hl : z.toNatClampNeg = vs.length) (hd : decode B pc = .ok (.ldc index, 2)) {n : Nat} (hn : 4 * text.toList.length ≤ n) (hbig : n ≤ 536870912) (hc1 : cells + 2 ≤ R.cells) (hl1 : slots + (n + 4) ≤ R.slots)
    (k : ∀ h' a b kb, Kq h h' noW → Exa Z h' a "java/lang/String" → Fld Z h' a "java/lang/String" "coder" "B" (.int 0) → Fld Z h' a "java/lang/String" "value" "[B" (.ref b) → Arv Z h' b kb .byte z vs (.int 0) → Walk Z own nm rt B ml R h0 W Q ws (some (text :: Tl)) ((own, index, a) :: Li) h' (cells + 2) (slots + (n + 4)) pc' Ls (.ref a :: st)) (hp : pc + 2 = pc' := by rfl) :
    Walk Z own nm rt B ml R h0 W Q ws Ts Li h cells slots pc Ls st := by
  intro p l e s m args below meth c T locs ho
  obtain ⟨vm0, k0, X, hx, eT, a2, a3, a4, a5, a6, a7, a8, a9, a10, hc, r⟩ := ho
  subst hp hTs
  have X1 : Stand p l e R ((s.setVm vm0).setVm vm0) m args below meth c T locs cells slots := X
  obtain ⟨a, T', h', k1, b, kb, X', e', E', S', hk1, hZ', hown', f1, f2, f3, f4, -, -, I', L', stp⟩ := ldcSVL X1 hx a4 a5 w wS eT (k0 := 0) ((State.WarmedH.refl (s.setVm vm0)).since _) (Nat.zero_le _) (fun y hy => by show s.heap.size ≤ _; rw [a9]; exact hfresh _ (a8 y hy)) (fun b cl q => a10.2 b cl q) (a6.1 _ rfl) hnot hh hcw ht hz hl (g := mkF m pc Ls st) rfl (hb hc hd) hn hbig hc1 hl1
  obtain ⟨s₂, o, h1, r2⟩ := k h' a b kb (Kq.of_ext E') f1 f2 f3 f4 p l e s m args below meth c T' locs ⟨T'.vm, h'.size, X', hx, e', a2.trans ⟨S'.1, fun j q hj hq => ⟨(S'.2 j q hj hq).1, Nat.lt_of_lt_of_le (S'.2 j q hj hq).2 hk1⟩⟩ (Nat.le_trans a3 E'.1), Nat.le_refl _, hZ', hown', ⟨fun T hT => by cases hT; exact I', fun q hq => (List.mem_cons.mp hq).elim (fun u => by subst u; exact L') (fun u => State.resolvedAt?_warmed39 (s := s.setVm vm0) S'.1 (a6.2 q u))⟩, a7, a8, a9, a10, hc, r⟩
  exact ⟨s₂, o, stp _ h1, r2⟩
/-- .. of an entry that is known to be resolved -/
theorem Walk.ldcAgain {index : Nat} {text : String} {a : Addr} (w : (Cond.stringLink own index text).before a0 Z = true) (hLi : (own, index, a) ∈ Li) (hd : decode B pc = .ok (.ldc index, 2)) (k : Walk Z own nm rt B ml R h0 W Q ws Ts Li h cells slots pc' Ls (.ref a :: st)) (hp : pc + 2 = pc' := by rfl) : Walk Z own nm rt B ml R h0 W Q ws Ts Li h cells slots pc Ls st := by
  intro p l e s m args below meth c T locs ho
  obtain ⟨s₂, o, h1, r2⟩ := k p l e s m args below meth c T locs ho
  obtain ⟨vm0, k0, X, hx, eT, a2, a3, a4, a5, a6, a7, a8, a9, a10, hc, r⟩ := ho
  subst hp
  exact ⟨s₂, o, RoadKit.ldcAgain X hx a4 a5 w (a6.2 _ hLi) (g := mkF m pc Ls st) rfl (hb hc hd) _ h1, r2⟩
/-! ### ends -/
theorem ReturnedEndW.mono {s t : State} {o : Outcome} {L : List Loc} {k n k' n' : Nat} (hE : ReturnedEndW s o t L k n) (hk : k ≤ k') (hn : n ≤ n') : ReturnedEndW s o t L k' n' := ⟨hE.1, hE.2.1, hE.2.2.1, hE.2.2.2.mono hk hn⟩
theorem Walk.leave {v : Option Value} (hv : rt = none → v = none) (hq : ∀ y, ws y → Fw h0 W y) (hc1 : cells ≤ R.cells) (hl1 : slots ≤ R.slots) (q : Q v h Ts Li)
    (f : ∀ (p : Program) (l : Launch) (e : Env) (s : State) (m : MethodId) (args : Array Value) (below : List Frame) (meth : Method) (c : Code) (T : State) (locs : List Loc) (fs : List Frame), Stand p l e R s m args below meth c T locs cells slots → p.tables.exec = Jvm.exec → c.code = B → meth.sig.returnType = rt →
      (∀ (f : JFrame) (acts : List Action), f.method = m → f.locked = none → f.entered = [] → (doReturn e (T.setTop f) acts v).1 = T.setFrames fs) → Steps p.tables e below (T.setTop (mkF m pc Ls st)) (T.setFrames fs)) :
    Walk Z own nm rt B ml R h0 W Q ws Ts Li h cells slots pc Ls st := by
  intro p l e s m args below meth c T locs ho
  obtain ⟨vm0, k0, X, hx, eT, a2, a3, a4, a5, a6, a7, a8, a9, a10, hc, b1, b2, b3, b4⟩ := ho
  obtain ⟨fs, hr, hrun, hended, hE⟩ := X.leaveW a2 (eT ▸ a3) (v := v) (fun q => hv (b3.symm.trans q)) b4
  exact ⟨_, _, f p l e _ m args below meth c T locs fs X hx hc b3 hr, hrun, hended, v, locs, Ts, Li, rfl, eT ▸ q, LS.warm (s := s) a6 X.warmed, a7, fun y hy => hq _ (a8 y hy), ReturnedEndW.mono hE hc1 hl1⟩
theorem Walk.ret (hd : decode B pc = .ok (.return_, 1)) (hrt : rt = none) (q : Q none h Ts Li) (hq : ∀ y, ws y → Fw h0 W y) (hc1 : cells ≤ R.cells) (hl1 : slots ≤ R.slots) : Walk Z own nm rt B ml R h0 W Q ws Ts Li h cells slots pc Ls [] :=
  Walk.leave (fun _ => rfl) hq hc1 hl1 q fun _ _ _ _ _ _ _ _ _ _ _ _ X hx hc b hr => X.returnOut hx (b.trans hrt) (hb hc hd) hr
theorem Walk.lret {x : Int64} (hd : decode B pc = .ok (.lreturn, 1)) (hrt : rt = some .long) (q : Q (some (.long x)) h Ts Li) (hq : ∀ y, ws y → Fw h0 W y) (hc1 : cells ≤ R.cells) (hl1 : slots ≤ R.slots) : Walk Z own nm rt B ml R h0 W Q ws Ts Li h cells slots pc Ls [.long x] :=
  Walk.leave (fun z => by rw [hrt] at z; cases z) hq hc1 hl1 q fun _ _ _ _ _ _ _ _ _ _ _ _ X hx hc b hr => X.lreturnOut hx (b.trans hrt) (hb hc hd) hr
theorem Walk.nret {x : Int32} {t : FieldType} (hd : decode B pc = .ok (.ireturn, 1)) (hrt : rt = some t) (ht : t = .boolean ∨ t = .byte ∨ t = .char ∨ t = .short) (q : Q (some (.int (nar t x))) h Ts Li) (hq : ∀ y, ws y → Fw h0 W y) (hc1 : cells ≤ R.cells) (hl1 : slots ≤ R.slots) : Walk Z own nm rt B ml R h0 W Q ws Ts Li h cells slots pc Ls (.int x :: st) :=
  Walk.leave (fun z => by rw [hrt] at z; cases z) hq hc1 hl1 q fun _ _ _ _ _ _ _ _ _ _ _ _ X hx hc b hr => retN X hx (b.trans hrt) ht (hb hc hd) hr
theorem Walk.iret {x : Int32} (hd : decode B pc = .ok (.ireturn, 1)) (hrt : rt = some .int) (q : Q (some (.int x)) h Ts Li) (hq : ∀ y, ws y → Fw h0 W y) (hc1 : cells ≤ R.cells) (hl1 : slots ≤ R.slots) : Walk Z own nm rt B ml R h0 W Q ws Ts Li h cells slots pc Ls (.int x :: st) :=
  Walk.leave (fun z => by rw [hrt] at z; cases z) hq hc1 hl1 q fun _ _ _ _ _ _ _ _ _ _ _ _ X hx hc b hr => retI X hx (b.trans hrt) (hb hc hd) hr
theorem Walk.aret {v : Value} {t : FieldType} (hd : decode B pc = .ok (.areturn, 1)) (hrt : rt = some t) (ht : t.isReference = true) (hv : v.isRef = true) (q : Q (some v) h Ts Li) (hq : ∀ y, ws y → Fw h0 W y) (hc1 : cells ≤ R.cells) (hl1 : slots ≤ R.slots) : Walk Z own nm rt B ml R h0 W Q ws Ts Li h cells slots pc Ls (v :: st) :=
  Walk.leave (fun z => by rw [hrt] at z; cases z) hq hc1 hl1 q fun _ _ _ _ _ _ _ _ _ _ _ _ X hx hc b hr => retR X hx (b.trans hrt) (by cases v <;> first | (cases hv; done) | (cases t <;> first | rfl | (cases ht; done))) ht hv (hb hc hd) hr
theorem Av.arv {a : Addr} {ty : FieldType} {n : Nat} {f : Nat → Value} (F : Av Z h a ty n f) {z : Int32} (hz : ¬ z < 0) (hzn : z.toNatClampNeg = n) {vs : List Value} {d : Value} (hv : ∀ i, i < n → vs.getD i d = f i) (hf : ∀ i, i < n → fits ty (f i) = true) : ∃ k, Arv Z h a k ty z vs d := by
  obtain ⟨c, A, r1, r2, r3⟩ := F
  exact ⟨c.cls, c, A, rfl, by rw [r1, hzn], hz, fun i hi => by rw [hv i (r1 ▸ hi)]; exact r3 i (r1 ▸ hi), fun i hi => by rw [hv i (r1 ▸ hi)]; exact hf i (r1 ▸ hi)⟩
theorem refNar {v : Value} {t : FieldType} (hv : v.isRef = true) (ht : t.isReference = true) : narrow t v = v := by cases v <;> first | (cases hv; done) | (cases t <;> first | rfl | (cases ht; done))
theorem refFit {v : Value} {t : FieldType} (hv : v.isRef = true) (ht : t.isReference = true) : fits t v = true := by cases v <;> first | (cases hv; done) | (cases t <;> first | rfl | (cases ht; done))
theorem cat_i (x : Int32) : (Value.int x).category = 1 := rfl
theorem cat_j (x : Int64) : (Value.long x).category = 2 := rfl
theorem cat_r (x : Addr) : (Value.ref x).category = 1 := rfl
theorem cat_n : Value.null.category = 1 := rfl
theorem stV {L L' : Array Slot} {i : Nat} {v : Value} {o : Slot} (hold : L[i]? = some o) (ho : o = .unset ∨ ∃ w, o = .val w ∧ w.category = 1) (hv : v.category = 1) (e : L.setIfInBounds i (.val v) = L') : storeLocals L i v = some L' := e ▸ XS.store1 hold ho hv
end W
end Jvm.Wk
namespace Jvm.Wk
theorem n32_toInt {i : Nat} (h : i < 2147483648) : (Int32.ofNat i).toInt = i := Int32.toInt_ofNat_small h
theorem n32_lt {i n : Nat} (hi : i < 2147483648) (hn : n < 2147483648) : (Int32.ofNat i < Int32.ofNat n) ↔ i < n := by
  rw [Int32.lt_iff_toInt_lt, n32_toInt hi, n32_toInt hn]; omega
theorem n32_succ (i : Nat) : Int32.ofNat i + 1 = Int32.ofNat (i + 1) := by
  apply Int32.toBitVec_inj.mp
  show BitVec.ofNat 32 i + 1#32 = BitVec.ofNat 32 (i + 1)
  rw [BitVec.ofNat_add]
theorem n32_nn {i : Nat} (h : i < 2147483648) : ¬ Int32.ofNat i < 0 := by
  rw [Int32.lt_iff_toInt_lt, n32_toInt h]; show ¬ ((i : Int) < 0); omega
theorem n32_nat {i : Nat} (h : i < 2147483648) : (Int32.ofNat i).toNatClampNeg = i := by
  show (Int32.ofNat i).toInt.toNat = i
  rw [n32_toInt h]; rfl
theorem n32_inj {i j : Nat} (hi : i < 2147483648) (hj : j < 2147483648) (e : Int32.ofNat i = Int32.ofNat j) : i = j := by
  have := congrArg Int32.toInt e
  rw [n32_toInt hi, n32_toInt hj] at this; omega
theorem shr0 (x : Int32) : x >>> ((0 : Int32) &&& 31) = x := by
  apply Int32.toInt_inj.mp
  rw [Jvm.RoadKit.c_ishr x 0 0 rfl]; simp
end Jvm.Wk
/- laws to paste: Road.backArv, lo8_mask (cut by pick.py; bodies as the Statement names them) -/
namespace Jvm.Pilot.@@N@@
namespace StrChars
open Jvm Sem ClassFile Op Lib Jvm.Stand Jvm.Free.XT Jvm.Free.ALB Jvm.Free.JM Jvm.Free
open Jvm.Lib.Cold (StaticIs)
/-- a char array whose places are chars -/
def Ch (a : Addr) (A : Cell) (U : State) : Prop := Arr .char a A U ∧ Typed .char A
theorem Ch.mv {a : Addr} {A : Cell} {U U' : State} (h : Ch a A U) (hal : U.vm.Alike U'.vm) (hh : U'.heap = U.heap) : Ch a A U' := ⟨h.1.mv hal hh, h.2⟩
theorem Ch.keep {a : Addr} {A : Cell} {U U' : State} (h : Ch a A U) (hal : U.vm.Alike U'.vm) (hk : U'.heap[a]? = some A) : Ch a A U' := ⟨h.1.keep hal hk, h.2⟩
/-- what place i of a char[]'s cell holds -/
def cv (A : Cell) (i : Nat) : Int32 := match A.slots[i]? with | some (.int x) => x | _ => 0
theorem Ch.get {a : Addr} {A : Cell} {U : State} (h : Ch a A U) {i : Nat} (hi : i < A.slots.size) : A.slots[i]? = some (.int (cv A i)) := by
  have e := Array.getElem?_eq_getElem hi
  have f := h.2 i _ e
  unfold cv; rw [e]
  generalize A.slots[i] = v at f
  cases v <;> simp [fits] at f ⊢
/-- the byte that i2b leaves of a char -/
def lo8 (x : Int32) : Int32 := x.toInt8.toInt32
theorem fits_lo8 (y : Int32) : fits .byte (.int (lo8 y)) = true := by
  have h1 := y.toInt8.le_toInt
  have h2 := y.toInt8.toInt_lt
  simp only [lo8, fits, Bool.and_eq_true, decide_eq_true_eq, Int32.le_iff_toInt_le, Int8.toInt_toInt32, show (-128 : Int32).toInt = -128 from by decide, show (127 : Int32).toInt = 127 from by decide]
  omega
/-- A' is A but that each place j of lo .. hi - 1 holds f j -/
def Laid (A A' : Cell) (lo hi : Nat) (f : Nat → Value) : Prop := A'.cls = A.cls ∧ A'.vm = A.vm ∧ A'.slots.size = A.slots.size ∧ ∀ i, A'.slots[i]? = if lo ≤ i ∧ i < hi then some (f i) else A.slots[i]?
theorem Laid.zero (A : Cell) (lo : Nat) (f : Nat → Value) : Laid A A lo (lo + 0) f := ⟨rfl, rfl, rfl, fun i => by rw [if_neg (by omega)]⟩
theorem Laid.step {A Ak : Cell} {lo k : Nat} {f : Nat → Value} {v : Value} (h : Laid A Ak lo k f) (hlo : lo ≤ k) (hk : k < Ak.slots.size) (hv : v = f k) : Laid A (Ak.setSlot k v) lo (k + 1) f := by
  refine ⟨h.1, h.2.1, by simpa [Cell.setSlot] using h.2.2.1, fun i => ?_⟩
  by_cases e : k = i
  · subst e; rw [Cell.slots_setSlot_self v hk, if_pos (by omega), hv]
  · rw [Cell.slots_setSlot_ne v e, h.2.2.2 i]
    by_cases q : lo ≤ i ∧ i < k
    · rw [if_pos q, if_pos (by omega)]
    · rw [if_neg q, if_neg (by omega)]
def U16 : String := "java/lang/StringUTF16"
namespace Cmp5
def yN : MethodName := ⟨"java/lang/StringUTF16", "compress", "([CI[BII)I"⟩
abbrev yB : ByteArray := jdk_52_method_21_code
theorem d0 : decode yB 0 = .ok (.iconst 0, 1) := by decide +kernel
theorem d1 : decode yB 1 = .ok (.istore 5, 2) := by decide +kernel
theorem d3 : decode yB 3 = .ok (.iload 5, 2) := by decide +kernel
theorem d5 : decode yB 5 = .ok (.iload 4, 2) := by decide +kernel
theorem d7 : decode yB 7 = .ok (.if_icmp (.ge) 37, 3) := by decide +kernel
theorem d10 : decode yB 10 = .ok (.aload_n 0, 1) := by decide +kernel
theorem d11 : decode yB 11 = .ok (.iload_n 1, 1) := by decide +kernel
theorem d12 : decode yB 12 = .ok (.caload, 1) := by decide +kernel
theorem d13 : decode yB 13 = .ok (.istore 6, 2) := by decide +kernel
theorem d15 : decode yB 15 = .ok (.iload 6, 2) := by decide +kernel
theorem d17 : decode yB 17 = .ok (.sipush 255, 3) := by decide +kernel
theorem d20 : decode yB 20 = .ok (.if_icmp (.le) 6, 3) := by decide +kernel
theorem d26 : decode yB 26 = .ok (.aload_n 2, 1) := by decide +kernel
theorem d27 : decode yB 27 = .ok (.iload_n 3, 1) := by decide +kernel
theorem d28 : decode yB 28 = .ok (.iload 6, 2) := by decide +kernel
theorem d30 : decode yB 30 = .ok (.i2b, 1) := by decide +kernel
theorem d31 : decode yB 31 = .ok (.bastore, 1) := by decide +kernel
theorem d32 : decode yB 32 = .ok (.iinc 1 1, 3) := by decide +kernel
theorem d35 : decode yB 35 = .ok (.iinc 3 1, 3) := by decide +kernel
theorem d38 : decode yB 38 = .ok (.iinc 5 1, 3) := by decide +kernel
theorem d41 : decode yB 41 = .ok (.goto (-38), 3) := by decide +kernel
theorem d44 : decode yB 44 = .ok (.iload 4, 2) := by decide +kernel
theorem d46 : decode yB 46 = .ok (.ireturn, 1) := by decide +kernel
def site : List Cond := []
def tab : Cond := tabOf yN yB 7 (some .int) site
def P (b : Addr) (A : Cell) (d : Addr) (B : Cell) (o q len : Nat) (args : Array Value) (s : State) : Prop := args = #[.ref b, .int (Int32.ofNat o), .ref d, .int (Int32.ofNat q), .int (Int32.ofNat len)] ∧ Ch b A s ∧ Arr .byte d B s ∧ b ≠ d ∧ o + len ≤ A.slots.size ∧ q + len ≤ B.slots.size ∧ ∀ i, i < len → ¬ 255 < cv A (o + i)
def E (b : Addr) (A : Cell) (d : Addr) (B : Cell) (o q len : Nat) (r : Option Value) (s u : State) : Prop := r = some (.int (Int32.ofNat len)) ∧ ∃ B', Put d B' s u ∧ Laid B B' q (q + len) (fun j => Value.int (lo8 (cv A (o + (j - q)))))
/-- no char of the range above 255: len; the places written hold each char's low byte -/
theorem law (l : Launch) (b : Addr) (A : Cell) (d : Addr) (B : Cell) (o q len : Nat) : Law l yN 5 5 0 0 yB 7 (some .int) site (P b A d B o q len) (E b A d B o q len) (copyLocs d q len) 0 0 := by
  refine Law.of_walk (plainFor_of_name (by decide +kernel)) (by decide +kernel) (by decide +kernel) (by decide) (fun _ _ h => by rw [h.1]; rfl) (fun _ U U' hal hh h => ⟨h.1, h.2.1.mv hal hh, h.2.2.1.mv hal hh, h.2.2.2⟩) (fun r U U' V V' h1 hal h2 h => ⟨h.1, h.2.elim fun B' q => ⟨B', q.1.mv h1 h2, q.2⟩⟩) ?_
  intro p e s m args below meth c s₁ X0 hexec hbytes hml hret hlk hnm hown hh0 W hP
  obtain ⟨rfl, hA, hB, hne, l1, l2, hp⟩ := hP
  have c1 : Steps p.tables e below (s₁.setTop (entryFrame m #[.ref b, .int (Int32.ofNat o), .ref d, .int (Int32.ofNat q), .int (Int32.ofNat len)] 7)) (s₁.setTop (mkF m 0 #[.val (.ref b), .val (.int (Int32.ofNat o)), .val (.ref d), .val (.int (Int32.ofNat q)), .val (.int (Int32.ofNat len)), .unset, .unset] [])) := entry rfl
  have hA0 := hA.1.mv X0.warmed.alike hh0
  have hB0 := hB.mv X0.warmed.alike hh0
  have a31 := hA.1.2.2.2
  have c2 : Steps p.tables e below (s₁.setTop (entryFrame m #[.ref b, .int (Int32.ofNat o), .ref d, .int (Int32.ofNat q), .int (Int32.ofNat len)] 7)) (s₁.setTop (mkF m 3 #[.val (.ref b), .val (.int (Int32.ofNat o)), .val (.ref d), .val (.int (Int32.ofNat q)), .val (.int (Int32.ofNat len)), .val (.int 0), .unset] [])) := c1.trans (by
    refine iconstV X0.here hexec rfl 0 (hb hbytes d0) (by decide) ?_
    refine XS.istore X0.here hexec rfl (hb hbytes d1) rfl rfl ?_
    exact Steps.refl _)
  have loop : ∀ (r i : Nat), i + r = len → ∀ (z : Slot), (z = .unset ∨ ∃ w, z = .val w ∧ w.category = 1) → ∀ (Tl : State) (Bk : Cell), Stand p l e { frames := 0, locals := 0, cells := 0, slots := 0 } s m #[.ref b, .int (Int32.ofNat o), .ref d, .int (Int32.ofNat q), .int (Int32.ofNat len)] below meth c Tl ([] ++ copyLocs d q i) 0 0 → Put d Bk s₁ Tl → Laid B Bk q (q + i) (fun j => Value.int (lo8 (cv A (o + (j - q))))) →
      Steps p.tables e below (s₁.setTop (entryFrame m #[.ref b, .int (Int32.ofNat o), .ref d, .int (Int32.ofNat q), .int (Int32.ofNat len)] 7)) (Tl.setTop (mkF m 3 #[.val (.ref b), .val (.int (Int32.ofNat (o + i))), .val (.ref d), .val (.int (Int32.ofNat (q + i))), .val (.int (Int32.ofNat len)), .val (.int (Int32.ofNat i)), z] [])) → ∃ (T' : State) (B' : Cell) (z' : Slot), Stand p l e { frames := 0, locals := 0, cells := 0, slots := 0 } s m #[.ref b, .int (Int32.ofNat o), .ref d, .int (Int32.ofNat q), .int (Int32.ofNat len)] below meth c T' ([] ++ copyLocs d q len) 0 0 ∧ Put d B' s₁ T' ∧ Laid B B' q (q + len) (fun j => Value.int (lo8 (cv A (o + (j - q))))) ∧
      Steps p.tables e below (s₁.setTop (entryFrame m #[.ref b, .int (Int32.ofNat o), .ref d, .int (Int32.ofNat q), .int (Int32.ofNat len)] 7)) (T'.setTop (mkF m 3 #[.val (.ref b), .val (.int (Int32.ofNat (o + len))), .val (.ref d), .val (.int (Int32.ofNat (q + len))), .val (.int (Int32.ofNat len)), .val (.int (Int32.ofNat len)), z'] [])) := by
    intro r
    induction r with
    | zero =>
      intro i hi z hz Tl Bk Xl pl fl cl
      have hil : i = len := by omega
      rw [hil] at Xl fl cl
      exact ⟨Tl, Bk, z, Xl, pl, fl, cl⟩
    | succ r ih =>
      intro i hi z hz Tl Bk Xl pl fl cl
      have all := X0.warmed.alike.symm.trans Xl.warmed.alike
      have hAl := hA0.keep all (pl.other hne hA0.1)
      have hBk := hB0.like all pl.1 fl.1 fl.2.1 fl.2.2.1
      have hlt : q + i < Bk.slots.size := by rw [fl.2.2.1]; omega
      have c3 : Steps p.tables e below (s₁.setTop (entryFrame m #[.ref b, .int (Int32.ofNat o), .ref d, .int (Int32.ofNat q), .int (Int32.ofNat len)] 7)) (Tl.setTop (mkF m 12 #[.val (.ref b), .val (.int (Int32.ofNat (o + i))), .val (.ref d), .val (.int (Int32.ofNat (q + i))), .val (.int (Int32.ofNat len)), .val (.int (Int32.ofNat i)), z] [.int (Int32.ofNat (o + i)), .ref b])) := cl.trans (by
        refine XS.iload Xl.here hexec rfl (hb hbytes d3) rfl ?_
        refine XS.iload Xl.here hexec rfl (hb hbytes d5) rfl ?_
        refine XS.icmpNo Xl.here hexec rfl (hb hbytes d7) rfl (ii_ge_f (lt32 (by omega) (by omega))) ?_
        refine XS.aloadN Xl.here hexec rfl (hb hbytes d10) rfl rfl ?_
        refine XS.iloadN Xl.here hexec rfl (hb hbytes d11) rfl ?_
        exact Steps.refl _)
      have c4 : Steps p.tables e below (s₁.setTop (entryFrame m #[.ref b, .int (Int32.ofNat o), .ref d, .int (Int32.ofNat q), .int (Int32.ofNat len)] 7)) (Tl.setTop (mkF m 13 #[.val (.ref b), .val (.int (Int32.ofNat (o + i))), .val (.ref d), .val (.int (Int32.ofNat (q + i))), .val (.int (Int32.ofNat len)), .val (.int (Int32.ofNat i)), z] [.int (cv A (o + i))])) := c3.trans (by
        refine Xl.aget hexec hAl rfl (hA.get (i := o + i) (by omega)) rfl rfl (hb hbytes d12) ?_
        exact Steps.refl _)
      have c5 : Steps p.tables e below (s₁.setTop (entryFrame m #[.ref b, .int (Int32.ofNat o), .ref d, .int (Int32.ofNat q), .int (Int32.ofNat len)] 7)) (Tl.setTop (mkF m 15 #[.val (.ref b), .val (.int (Int32.ofNat (o + i))), .val (.ref d), .val (.int (Int32.ofNat (q + i))), .val (.int (Int32.ofNat len)), .val (.int (Int32.ofNat i)), .val (.int (cv A (o + i)))] [])) := c4.trans (by
        refine XS.istoreS Xl.here hexec rfl (hb hbytes d13) rfl rfl hz ?_
        exact Steps.refl _)
      have c6 : Steps p.tables e below (s₁.setTop (entryFrame m #[.ref b, .int (Int32.ofNat o), .ref d, .int (Int32.ofNat q), .int (Int32.ofNat len)] 7)) (Tl.setTop (mkF m 31 #[.val (.ref b), .val (.int (Int32.ofNat (o + i))), .val (.ref d), .val (.int (Int32.ofNat (q + i))), .val (.int (Int32.ofNat len)), .val (.int (Int32.ofNat i)), .val (.int (cv A (o + i)))] [.int (lo8 (cv A (o + i))), .int (Int32.ofNat (q + i)), .ref d])) := c5.trans (by
        refine XS.iload Xl.here hexec rfl (hb hbytes d15) rfl ?_
        refine sipushV Xl.here hexec rfl 255 (hb hbytes d17) (by decide) ?_
        refine XS.icmpYes Xl.here hexec rfl (pc0 := 20) rfl (hb hbytes d20) rfl (ii_le_t (hp i (by omega))) (by decide) rfl ?_
        refine XS.aloadN Xl.here hexec rfl (hb hbytes d26) rfl rfl ?_
        refine XS.iloadN Xl.here hexec rfl (hb hbytes d27) rfl ?_
        refine XS.iload Xl.here hexec rfl (hb hbytes d28) rfl ?_
        refine i2b Xl.here hexec rfl (hb hbytes d30) rfl ?_
        exact Steps.refl _)
      obtain ⟨T7, X7, p7, st7⟩ := Xl.aput hexec hBk rfl hlt rfl (fits_lo8 (cv A (o + i))) (g := (mkF m 31 #[.val (.ref b), .val (.int (Int32.ofNat (o + i))), .val (.ref d), .val (.int (Int32.ofNat (q + i))), .val (.int (Int32.ofNat len)), .val (.int (Int32.ofNat i)), .val (.int (cv A (o + i)))] [.int (lo8 (cv A (o + i))), .int (Int32.ofNat (q + i)), .ref d])) rfl (rest := []) rfl (hb hbytes d31)
      have c8 : Steps p.tables e below (s₁.setTop (entryFrame m #[.ref b, .int (Int32.ofNat o), .ref d, .int (Int32.ofNat q), .int (Int32.ofNat len)] 7)) (T7.setTop (mkF m 32 #[.val (.ref b), .val (.int (Int32.ofNat (o + i))), .val (.ref d), .val (.int (Int32.ofNat (q + i))), .val (.int (Int32.ofNat len)), .val (.int (Int32.ofNat i)), .val (.int (cv A (o + i)))] [])) := c6.trans (st7 _ (Steps.refl _))
      have c9 : Steps p.tables e below (s₁.setTop (entryFrame m #[.ref b, .int (Int32.ofNat o), .ref d, .int (Int32.ofNat q), .int (Int32.ofNat len)] 7)) (T7.setTop (mkF m 3 #[.val (.ref b), .val (.int (Int32.ofNat (o + i) + 1)), .val (.ref d), .val (.int (Int32.ofNat (q + i) + 1)), .val (.int (Int32.ofNat len)), .val (.int (Int32.ofNat i + 1)), .val (.int (cv A (o + i)))] [])) := c8.trans (by
        refine iincV X7.here hexec rfl 1 (hb hbytes d32) (by decide) rfl rfl ?_
        refine iincV X7.here hexec rfl 1 (hb hbytes d35) (by decide) rfl rfl ?_
        refine iincV X7.here hexec rfl 1 (hb hbytes d38) (by decide) rfl rfl ?_
        refine XS.goto X7.here hexec rfl (pc0 := 41) rfl (hb hbytes d41) (by decide) rfl ?_
        exact Steps.refl _)
      have c10 : Steps p.tables e below (s₁.setTop (entryFrame m #[.ref b, .int (Int32.ofNat o), .ref d, .int (Int32.ofNat q), .int (Int32.ofNat len)] 7)) (T7.setTop (mkF m 3 #[.val (.ref b), .val (.int (Int32.ofNat (o + (i + 1)))), .val (.ref d), .val (.int (Int32.ofNat (q + (i + 1)))), .val (.int (Int32.ofNat len)), .val (.int (Int32.ofNat (i + 1))), .val (.int (cv A (o + i)))] [])) := by
        have := c9
        rw [succ32, succ32, succ32] at this
        exact this
      exact ih (i + 1) (by omega) _ (Or.inr ⟨_, rfl, rfl⟩) T7 _ (by rw [copyLocs_step, ← List.append_assoc]; exact X7) (pl.trans p7) (fl.step (by omega) hlt (by simp)) c10
  obtain ⟨T9, B9, z9, X9, p9, f9, g9⟩ := loop len 0 (by omega) .unset (Or.inl rfl) s₁ B (by simpa [copyLocs] using X0) ⟨hB0.1, fun _ _ => rfl, rfl⟩ (Laid.zero _ _ _) c2
  have c11 : Steps p.tables e below (s₁.setTop (entryFrame m #[.ref b, .int (Int32.ofNat o), .ref d, .int (Int32.ofNat q), .int (Int32.ofNat len)] 7)) (T9.setTop (mkF m 46 #[.val (.ref b), .val (.int (Int32.ofNat (o + len))), .val (.ref d), .val (.int (Int32.ofNat (q + len))), .val (.int (Int32.ofNat len)), .val (.int (Int32.ofNat len)), z9] [.int (Int32.ofNat len)])) := g9.trans (by
    refine XS.iload X9.here hexec rfl (hb hbytes d3) rfl ?_
    refine XS.iload X9.here hexec rfl (hb hbytes d5) rfl ?_
    refine XS.icmpYes X9.here hexec rfl (pc0 := 7) rfl (hb hbytes d7) rfl (ii_ge_t (nlt32 (by omega) (Nat.le_refl _))) (by decide) rfl ?_
    refine XS.iload X9.here hexec rfl (hb hbytes d44) rfl ?_
    exact Steps.refl _)
  exact ⟨T9, some (.int (Int32.ofNat len)), _, _, _, X9, by simp, rfl, rfl, (fun h => by cases h), ⟨rfl, B9, p9.from hh0, f9⟩, fun fs hl => c11.trans (X9.ireturnOut hexec hret rfl (Or.inl rfl) (hb hbytes d46) hl)⟩
end Cmp5
namespace Cmp3
def yN : MethodName := ⟨"java/lang/StringUTF16", "compress", "([CII)[B"⟩
abbrev yB : ByteArray := jdk_52_method_16_code
theorem d0 : decode yB 0 = .ok (.iload_n 2, 1) := by decide +kernel
theorem d1 : decode yB 1 = .ok (.newarray .byte, 2) := by decide +kernel
theorem d3 : decode yB 3 = .ok (.astore_n 3, 1) := by decide +kernel
theorem d4 : decode yB 4 = .ok (.aload_n 0, 1) := by decide +kernel
theorem d5 : decode yB 5 = .ok (.iload_n 1, 1) := by decide +kernel
theorem d6 : decode yB 6 = .ok (.aload_n 3, 1) := by decide +kernel
theorem d7 : decode yB 7 = .ok (.iconst 0, 1) := by decide +kernel
theorem d8 : decode yB 8 = .ok (.iload_n 2, 1) := by decide +kernel
theorem d9 : decode yB 9 = .ok (.invokestatic 115, 3) := by decide +kernel
theorem d12 : decode yB 12 = .ok (.istore 4, 2) := by decide +kernel
theorem d14 : decode yB 14 = .ok (.iload 4, 2) := by decide +kernel
theorem d16 : decode yB 16 = .ok (.iload_n 2, 1) := by decide +kernel
theorem d17 : decode yB 17 = .ok (.if_icmp (.eq) 40, 3) := by decide +kernel
theorem d57 : decode yB 57 = .ok (.aload_n 3, 1) := by decide +kernel
theorem d58 : decode yB 58 = .ok (.areturn, 1) := by decide +kernel
def site : List Cond := [.arrayClass .byte, Cmp5.tab] ++ staticW U16 115 Cmp5.yN
def tab : Cond := tabOf yN yB 6 (some (.array .byte)) site
def P (b : Addr) (A : Cell) (o len : Nat) (args : Array Value) (s : State) : Prop := args = #[.ref b, .int (Int32.ofNat o), .int (Int32.ofNat len)] ∧ Ch b A s ∧ o + len ≤ A.slots.size ∧ len ≤ 536870912 ∧ ∀ i, i < len → ¬ 255 < cv A (o + i)
def E (b : Addr) (A : Cell) (o len : Nat) (r : Option Value) (s u : State) : Prop := NewArr .byte "[B" len (fun j => .int (lo8 (cv A (o + j)))) r s u ∧ u.heap.size = s.heap.size + 1
/-- no char of the range above 255: a new byte[] of their low bytes -/
theorem law (l : Launch) (b : Addr) (A : Cell) (o len : Nat) : Law l yN 3 3 1 18 yB 6 (some (.array .byte)) site (P b A o len) (E b A o len) [] 1 len := by
  refine Law.of_walk (plainFor_of_name (by decide +kernel)) (by decide +kernel) (by decide +kernel) (by decide) (fun _ _ h => by rw [h.1]; rfl) (fun _ U U' hal hh h => ⟨h.1, h.2.1.mv hal hh, h.2.2⟩) (fun r U U' V V' h1 hal h2 h => ⟨NewArr.mv r U U' V V' h1 hal h2 h.1, by rw [h1, h2]; exact h.2⟩) ?_
  intro p e s m args below meth c s₁ X0 hexec hbytes hml hret hlk hnm hown hh0 W hP
  obtain ⟨rfl, hA, l1, l2, hp⟩ := hP
  have a31 := hA.1.2.2.2
  have c1 : Steps p.tables e below (s₁.setTop (entryFrame m #[.ref b, .int (Int32.ofNat o), .int (Int32.ofNat len)] 6)) (s₁.setTop (mkF m 0 #[.val (.ref b), .val (.int (Int32.ofNat o)), .val (.int (Int32.ofNat len)), .unset, .unset, .unset] [])) := entry rfl
  have c2 : Steps p.tables e below (s₁.setTop (entryFrame m #[.ref b, .int (Int32.ofNat o), .int (Int32.ofNat len)] 6)) (s₁.setTop (mkF m 1 #[.val (.ref b), .val (.int (Int32.ofNat o)), .val (.int (Int32.ofNat len)), .unset, .unset, .unset] [.int (Int32.ofNat len)])) := c1.trans (by
    refine XS.iloadN X0.here hexec rfl (hb hbytes d0) rfl ?_
    exact Steps.refl _)
  obtain ⟨T3, B3, X3, ba3, bs3, bv3, bh3, bf3, st3⟩ := X0.anew hexec (atype := .byte) (wk W (.arrayClass .byte)) rfl (by show len * 1 ≤ _; omega) (by omega) (g := (mkF m 1 #[.val (.ref b), .val (.int (Int32.ofNat o)), .val (.int (Int32.ofNat len)), .unset, .unset, .unset] [.int (Int32.ofNat len)])) rfl (hb hbytes d1) (rest := []) rfl (Nat.le_refl _) (by show 0 + len ≤ len; omega)
  rw [hh0] at ba3 st3
  have kp3 : XT.Kept s T3 := (XT.Kept.of_eq hh0).push bh3
  have hA3 := hA.keep X3.warmed.alike (kp3 _ _ hA.1.1)
  have hne : b ≠ s.heap.size := hA.1.ne
  have c4 : Steps p.tables e below (s₁.setTop (entryFrame m #[.ref b, .int (Int32.ofNat o), .int (Int32.ofNat len)] 6)) (T3.setTop (mkF m 3 #[.val (.ref b), .val (.int (Int32.ofNat o)), .val (.int (Int32.ofNat len)), .unset, .unset, .unset] [.ref s.heap.size])) := c2.trans (st3 _ (Steps.refl _))
  have c5 : Steps p.tables e below (s₁.setTop (entryFrame m #[.ref b, .int (Int32.ofNat o), .int (Int32.ofNat len)] 6)) (T3.setTop (mkF m 9 #[.val (.ref b), .val (.int (Int32.ofNat o)), .val (.int (Int32.ofNat len)), .val (.ref s.heap.size), .unset, .unset] [.int (Int32.ofNat len), .int 0, .ref s.heap.size, .int (Int32.ofNat o), .ref b])) := c4.trans (by
    refine XS.astoreN X3.here hexec rfl (hb hbytes d3) rfl rfl rfl ?_
    refine XS.aloadN X3.here hexec rfl (hb hbytes d4) rfl rfl ?_
    refine XS.iloadN X3.here hexec rfl (hb hbytes d5) rfl ?_
    refine XS.aloadN X3.here hexec rfl (hb hbytes d6) rfl rfl ?_
    refine iconstV X3.here hexec rfl 0 (hb hbytes d7) (by decide) ?_
    refine XS.iloadN X3.here hexec rfl (hb hbytes d8) rfl ?_
    exact Steps.refl _)
  obtain ⟨v6, T6, X6, E6, g6⟩ := X3.callS hexec (Cmp5.law l b A s.heap.size B3 o 0 len) hown (wks W (staticW U16 115 Cmp5.yN)) (wk W Cmp5.tab) (W := 0) (Nat.le_of_ble_eq_true rfl) (Nat.le_of_ble_eq_true rfl) (Nat.le_refl _) (by show 0 + len + 0 ≤ len; omega) (g := (mkF m 9 #[.val (.ref b), .val (.int (Int32.ofNat o)), .val (.int (Int32.ofNat len)), .val (.ref s.heap.size), .unset, .unset] [.int (Int32.ofNat len), .int (Int32.ofNat 0), .ref s.heap.size, .int (Int32.ofNat o), .ref b])) rfl (by rw [hml]; rfl) c5 (argsL := [.ref b, .int (Int32.ofNat o), .ref s.heap.size, .int (Int32.ofNat 0), .int (Int32.ofNat len)]) (rest := []) rfl rfl (by show 2 * 0 + 0 ≤ _; decide) (hb hbytes d9) (⟨rfl, hA3, ba3, hne, l1, by rw [bs3]; simp, hp⟩)
  obtain ⟨rfl, B6, p6, f6⟩ := E6
  have c7 : Steps p.tables e below (s₁.setTop (entryFrame m #[.ref b, .int (Int32.ofNat o), .int (Int32.ofNat len)] 6)) (T6.setTop (mkF m 12 #[.val (.ref b), .val (.int (Int32.ofNat o)), .val (.int (Int32.ofNat len)), .val (.ref s.heap.size), .unset, .unset] [.int (Int32.ofNat len)])) := g6
  have c8 : Steps p.tables e below (s₁.setTop (entryFrame m #[.ref b, .int (Int32.ofNat o), .int (Int32.ofNat len)] 6)) (T6.setTop (mkF m 58 #[.val (.ref b), .val (.int (Int32.ofNat o)), .val (.int (Int32.ofNat len)), .val (.ref s.heap.size), .val (.int (Int32.ofNat len)), .unset] [.ref s.heap.size])) := c7.trans (by
    refine XS.istore X6.here hexec rfl (hb hbytes d12) rfl rfl ?_
    refine XS.iload X6.here hexec rfl (hb hbytes d14) rfl ?_
    refine XS.iloadN X6.here hexec rfl (hb hbytes d16) rfl ?_
    refine XS.icmpYes X6.here hexec rfl (pc0 := 17) rfl (hb hbytes d17) rfl (ii_eq_t rfl) (by decide) rfl ?_
    refine XS.aloadN X6.here hexec rfl (hb hbytes d57) rfl rfl ?_
    exact Steps.refl _)
  have X8 := X6.wide (L' := []) (cells' := 1) (slots' := len) (fun x hx hlt => by
    simp only [List.nil_append, copyLocs, List.mem_map, List.mem_range] at hx
    obtain ⟨i, -, rfl⟩ := hx
    exact absurd hlt (Nat.lt_irrefl _)) (Nat.le_refl _) (by omega)
  exact ⟨T6, some (.ref s.heap.size), _, _, _, X8, rfl, rfl, rfl, (fun h => by cases h), ⟨⟨rfl, B6, ba3.like (X3.warmed.alike.symm.trans X6.warmed.alike) p6.1 f6.1 f6.2.1 f6.2.2.1, f6.2.1.trans bv3, by rw [X6.warmed.alike.findClass, f6.1]; exact bf3, by rw [f6.2.2.1, bs3]; simp, fun j hj => by rw [f6.2.2.2 j, if_pos (by omega)]; rfl, kp3.put p6 (Nat.le_refl _)⟩, by rw [p6.2.2, bh3, hh0]; simp⟩, fun fs hl => c8.trans (X8.areturnOut hexec rfl hret rfl (hb hbytes d58) hl)⟩
end Cmp3
namespace CodL
def yN : MethodName := ⟨"java/lang/StringUTF16", "coderFromArrayLen", "([BI)B"⟩
abbrev yB : ByteArray := jdk_52_method_15_code
theorem d0 : decode yB 0 = .ok (.iload_n 1, 1) := by decide +kernel
theorem d1 : decode yB 1 = .ok (.aload_n 0, 1) := by decide +kernel
theorem d2 : decode yB 2 = .ok (.arraylength, 1) := by decide +kernel
theorem d3 : decode yB 3 = .ok (.isub, 1) := by decide +kernel
theorem d4 : decode yB 4 = .ok (.bipush 31, 2) := by decide +kernel
theorem d6 : decode yB 6 = .ok (.iushr, 1) := by decide +kernel
theorem d7 : decode yB 7 = .ok (.i2b, 1) := by decide +kernel
theorem d8 : decode yB 8 = .ok (.ireturn, 1) := by decide +kernel
def site : List Cond := []
def tab : Cond := tabOf yN yB 2 (some .byte) site
def P (d : Addr) (B : Cell) (args : Array Value) (s : State) : Prop := args = #[.ref d, .int (Int32.ofNat B.slots.size)] ∧ Arr .byte d B s
def E (r : Option Value) (s u : State) : Prop := XT.PureE (some (.int 0)) r s u
/-- an array as long as the number of chars: LATIN1 -/
theorem law (l : Launch) (d : Addr) (B : Cell) : Law l yN 2 2 0 0 yB 2 (some .byte) site (P d B) E [] 0 0 := by
  refine Law.of_walk (plainFor_of_name (by decide +kernel)) (by decide +kernel) (by decide +kernel) (by decide) (fun _ _ h => by rw [h.1]; rfl) (fun _ U U' hal hh h => ⟨h.1, h.2.mv hal hh⟩) (fun r U U' V V' h1 hal h2 h => XT.PureE.mv r U U' V V' h1 hal h2 h) ?_
  intro p e s m args below meth c s₁ X0 hexec hbytes hml hret hlk hnm hown hh0 W hP
  obtain ⟨rfl, hB⟩ := hP
  have hB0 := hB.mv X0.warmed.alike hh0
  have c1 : Steps p.tables e below (s₁.setTop (entryFrame m #[.ref d, .int (Int32.ofNat B.slots.size)] 2)) (s₁.setTop (mkF m 0 #[.val (.ref d), .val (.int (Int32.ofNat B.slots.size))] [])) := entry rfl
  have c2 : Steps p.tables e below (s₁.setTop (entryFrame m #[.ref d, .int (Int32.ofNat B.slots.size)] 2)) (s₁.setTop (mkF m 2 #[.val (.ref d), .val (.int (Int32.ofNat B.slots.size))] [.ref d, .int (Int32.ofNat B.slots.size)])) := c1.trans (by
    refine XS.iloadN X0.here hexec rfl (hb hbytes d0) rfl ?_
    refine XS.aloadN X0.here hexec rfl (hb hbytes d1) rfl rfl ?_
    exact Steps.refl _)
  have c3 : Steps p.tables e below (s₁.setTop (entryFrame m #[.ref d, .int (Int32.ofNat B.slots.size)] 2)) (s₁.setTop (mkF m 8 #[.val (.ref d), .val (.int (Int32.ofNat B.slots.size))] [.int (lo8 (ushr (Int32.ofNat B.slots.size - Int32.ofNat B.slots.size) 31))])) := c2.trans (by
    refine X0.alen hexec hB0 rfl rfl (hb hbytes d2) ?_
    refine XS.isub X0.here hexec rfl (hb hbytes d3) rfl ?_
    refine bipushV X0.here hexec rfl 31 (hb hbytes d4) (by decide) ?_
    refine iushr X0.here hexec rfl (hb hbytes d6) rfl ?_
    refine i2b X0.here hexec rfl (hb hbytes d7) rfl ?_
    exact Steps.refl _)
  have e0 : lo8 (ushr (Int32.ofNat B.slots.size - Int32.ofNat B.slots.size) 31) = 0 := by rw [Int32.sub_self]; decide
  rw [e0] at c3
  exact ⟨s₁, some (.int 0), _, _, _, X0, rfl, rfl, rfl, (fun h => by cases h), ⟨rfl, hh0⟩, fun fs hl => c3.trans (X0.ireturnOut hexec hret rfl (Or.inr (Or.inr (Or.inl rfl))) (hb hbytes d8) hl)⟩
end CodL
/-- the String at a is Latin-1 over a new byte[] (the heap's one new cell): the low bytes of the len chars of A from o on; every cell but a is kept -/
def Got (a : Addr) (D : Cell) (fV fC : Field) (A : Cell) (o len : Nat) (r : Option Value) (s u : State) : Prop := r = none ∧ ∃ D' V : Cell, Blank "java/lang/String" a D' u ∧ Same D D' [fV.slot, fC.slot] ∧ D'.slots[fV.slot]? = some (.ref s.heap.size) ∧ D'.slots[fC.slot]? = some (.int 0) ∧ Arr .byte s.heap.size V u ∧ V.vm = .none ∧ u.vm.findClass "[B" = some V.cls ∧ V.slots.size = len ∧ (∀ j, j < len → V.slots[j]? = some (.int (lo8 (cv A (o + j))))) ∧ (∀ (y : Addr) (c : Cell), y ≠ a → s.heap[y]? = some c → u.heap[y]? = some c) ∧ u.heap.size = s.heap.size + 1
theorem Got.mv {a : Addr} {D A : Cell} {fV fC : Field} {o len : Nat} : ∀ r (U U' V V' : State), U'.heap = U.heap → V.vm.Alike V'.vm → V'.heap = V.heap → Got a D fV fC A o len r U V → Got a D fV fC A o len r U' V' :=
  fun r U U' V V' h1 hal h2 ⟨e0, D', X, a1, a2, a3, a4, a5, a6, a7, a8, a9, a10, a11⟩ => ⟨e0, D', X, a1.mv hal h2, a2, by rw [h1]; exact a3, a4, by rw [h1]; exact a5.mv hal h2, a6, by rw [hal.findClass]; exact a7, a8, a9, by rw [h1, h2]; exact a10, by rw [h1, h2]; exact a11⟩
namespace New4
def yN : MethodName := ⟨"java/lang/String", "<init>", "([CIILjava/lang/Void;)V"⟩
abbrev yB : ByteArray := jdk_42_method_149_code
theorem d0 : decode yB 0 = .ok (.aload_n 0, 1) := by decide +kernel
theorem d1 : decode yB 1 = .ok (.invokespecial 1, 3) := by decide +kernel
theorem d4 : decode yB 4 = .ok (.iload_n 3, 1) := by decide +kernel
theorem d5 : decode yB 5 = .ok (.ifCond (.ne) 22, 3) := by decide +kernel
theorem d27 : decode yB 27 = .ok (.getstatic 38, 3) := by decide +kernel
theorem d30 : decode yB 30 = .ok (.ifCond (.eq) 28, 3) := by decide +kernel
theorem d33 : decode yB 33 = .ok (.aload_n 1, 1) := by decide +kernel
theorem d34 : decode yB 34 = .ok (.iload_n 2, 1) := by decide +kernel
theorem d35 : decode yB 35 = .ok (.iload_n 3, 1) := by decide +kernel
theorem d36 : decode yB 36 = .ok (.invokestatic 177, 3) := by decide +kernel
theorem d39 : decode yB 39 = .ok (.astore 5, 2) := by decide +kernel
theorem d41 : decode yB 41 = .ok (.aload_n 0, 1) := by decide +kernel
theorem d42 : decode yB 42 = .ok (.aload 5, 2) := by decide +kernel
theorem d44 : decode yB 44 = .ok (.iload_n 3, 1) := by decide +kernel
theorem d45 : decode yB 45 = .ok (.invokestatic 47, 3) := by decide +kernel
theorem d48 : decode yB 48 = .ok (.putfield 15, 3) := by decide +kernel
theorem d51 : decode yB 51 = .ok (.aload_n 0, 1) := by decide +kernel
theorem d52 : decode yB 52 = .ok (.aload 5, 2) := by decide +kernel
theorem d54 : decode yB 54 = .ok (.putfield 9, 3) := by decide +kernel
theorem d57 : decode yB 57 = .ok (.return_, 1) := by decide +kernel
def site : List Cond := [.fieldLink "java/lang/String" 38 "java/lang/String" "COMPACT_STRINGS" "Z", Cmp3.tab, CodL.tab, .laysFinal "java/lang/String" "java/lang/String" "value" "[B", .fieldLink "java/lang/String" 9 "java/lang/String" "value" "[B", .laysFinal "java/lang/String" "java/lang/String" "coder" "B", .fieldLink "java/lang/String" 15 "java/lang/String" "coder" "B"] ++ objW "java/lang/String" 1 ++ staticW "java/lang/String" 177 Cmp3.yN ++ staticW "java/lang/String" 47 CodL.yN
def tab : Cond := tabOf yN yB 6 none site
def P (a : Addr) (D : Cell) (fV fC : Field) (b : Addr) (A : Cell) (z : Int32) (o len : Nat) (args : Array Value) (s : State) : Prop := args = #[.ref a, .ref b, .int (Int32.ofNat o), .int (Int32.ofNat len), .null] ∧ Blank "java/lang/String" a D s ∧ Found "java/lang/String" "value" "[B" fV s ∧ Found "java/lang/String" "coder" "B" fC s ∧ Ch b A s ∧ StaticIs s "java/lang/String" "COMPACT_STRINGS" "Z" (.int z) ∧ ¬ z = 0 ∧ 0 < len ∧ o + len ≤ A.slots.size ∧ len ≤ 536870912 ∧ ∀ i, i < len → ¬ 255 < cv A (o + i)
def E (a : Addr) (D : Cell) (fV fC : Field) (A : Cell) (o len : Nat) (r : Option Value) (s u : State) : Prop := Got a D fV fC A o len r s u
/-- len > 0, no char of the range above 255: a Latin-1 String of their low bytes -/
theorem law (l : Launch) (a : Addr) (D : Cell) (fV fC : Field) (b : Addr) (A : Cell) (z : Int32) (o len : Nat) : Law l yN 5 4 2 35 yB 6 none site (P a D fV fC b A z o len) (E a D fV fC A o len) [⟨a, fC.slot⟩, ⟨a, fV.slot⟩] 1 len := by
  refine Law.of_walk (plainFor_of_name (by decide +kernel)) (by decide +kernel) (by decide +kernel) (by decide) (fun _ _ h => by rw [h.1]; rfl) (fun _ U U' hal hh h => ⟨h.1, h.2.1.mv hal hh, h.2.2.1.al hal, h.2.2.2.1.al hal, h.2.2.2.2.1.mv hal hh, h.2.2.2.2.2.1.there hal hh, h.2.2.2.2.2.2⟩) (fun r U U' V V' h1 hal h2 h => Got.mv r U U' V V' h1 hal h2 h) ?_
  intro p e s m args below meth c s₁ X0 hexec hbytes hml hret hlk hnm hown hh0 W hP
  obtain ⟨rfl, hB, f1, f2, hA, s1, hz, l0, l1, l2, hp⟩ := hP
  have a31 := hA.1.2.2.2
  have c1 : Steps p.tables e below (s₁.setTop (entryFrame m #[.ref a, .ref b, .int (Int32.ofNat o), .int (Int32.ofNat len), .null] 6)) (s₁.setTop (mkF m 0 #[.val (.ref a), .val (.ref b), .val (.int (Int32.ofNat o)), .val (.int (Int32.ofNat len)), .val .null, .unset] [])) := entry rfl
  have c2 : Steps p.tables e below (s₁.setTop (entryFrame m #[.ref a, .ref b, .int (Int32.ofNat o), .int (Int32.ofNat len), .null] 6)) (s₁.setTop (mkF m 1 #[.val (.ref a), .val (.ref b), .val (.int (Int32.ofNat o)), .val (.int (Int32.ofNat len)), .val .null, .unset] [.ref a])) := c1.trans (by
    refine XS.aloadN X0.here hexec rfl (hb hbytes d0) rfl rfl ?_
    exact Steps.refl _)
  obtain ⟨T3, X3, q3, st3⟩ := X0.oinit hexec hown (wks W (objW "java/lang/String" 1)) (g := (mkF m 1 #[.val (.ref a), .val (.ref b), .val (.int (Int32.ofNat o)), .val (.int (Int32.ofNat len)), .val .null, .unset] [.ref a])) rfl (by rw [hml]; rfl) (rest := []) rfl (hb hbytes d1) (W := 0) (by show 2 * 0 + 0 ≤ _; decide) (Nat.le_of_ble_eq_true rfl) (Nat.le_of_ble_eq_true rfl)
  have hh3 := q3.trans hh0
  have c4 : Steps p.tables e below (s₁.setTop (entryFrame m #[.ref a, .ref b, .int (Int32.ofNat o), .int (Int32.ofNat len), .null] 6)) (T3.setTop (mkF m 27 #[.val (.ref a), .val (.ref b), .val (.int (Int32.ofNat o)), .val (.int (Int32.ofNat len)), .val .null, .unset] [])) := (c2.trans (st3 _ (Steps.refl _))).trans (by
    refine XS.iloadN X3.here hexec rfl (hb hbytes d4) rfl ?_
    refine XS.ifYes X3.here hexec rfl (pc0 := 5) rfl (hb hbytes d5) rfl (i0_ne_t (nz32 (by omega) l0)) (by decide) rfl ?_
    exact Steps.refl _)
  obtain ⟨T5, X5, q5, st5⟩ := X3.sget hexec hown (wk W (.fieldLink "java/lang/String" 38 "java/lang/String" "COMPACT_STRINGS" "Z")) s1 (fun _ _ h => by rw [hh3]; exact h) (g := (mkF m 27 #[.val (.ref a), .val (.ref b), .val (.int (Int32.ofNat o)), .val (.int (Int32.ofNat len)), .val .null, .unset] [])) rfl (hb hbytes d27)
  have hh5 := q5.trans hh3
  have c6 : Steps p.tables e below (s₁.setTop (entryFrame m #[.ref a, .ref b, .int (Int32.ofNat o), .int (Int32.ofNat len), .null] 6)) (T5.setTop (mkF m 30 #[.val (.ref a), .val (.ref b), .val (.int (Int32.ofNat o)), .val (.int (Int32.ofNat len)), .val .null, .unset] [.int z])) := c4.trans (st5 _ (Steps.refl _))
  have c7 : Steps p.tables e below (s₁.setTop (entryFrame m #[.ref a, .ref b, .int (Int32.ofNat o), .int (Int32.ofNat len), .null] 6)) (T5.setTop (mkF m 36 #[.val (.ref a), .val (.ref b), .val (.int (Int32.ofNat o)), .val (.int (Int32.ofNat len)), .val .null, .unset] [.int (Int32.ofNat len), .int (Int32.ofNat o), .ref b])) := c6.trans (by
    refine XS.ifNo X5.here hexec rfl (hb hbytes d30) rfl (i0_eq_f hz) ?_
    refine XS.aloadN X5.here hexec rfl (hb hbytes d33) rfl rfl ?_
    refine XS.iloadN X5.here hexec rfl (hb hbytes d34) rfl ?_
    refine XS.iloadN X5.here hexec rfl (hb hbytes d35) rfl ?_
    exact Steps.refl _)
  obtain ⟨v8, T8, X8, E8, g8⟩ := X5.callS hexec (Cmp3.law l b A o len) hown (wks W (staticW "java/lang/String" 177 Cmp3.yN)) (wk W Cmp3.tab) (W := 0) (Nat.le_of_ble_eq_true rfl) (Nat.le_of_ble_eq_true rfl) (Nat.le_refl _) (by show 0 + len ≤ len; omega) (g := (mkF m 36 #[.val (.ref a), .val (.ref b), .val (.int (Int32.ofNat o)), .val (.int (Int32.ofNat len)), .val .null, .unset] [.int (Int32.ofNat len), .int (Int32.ofNat o), .ref b])) rfl (by rw [hml]; rfl) c7 (argsL := [.ref b, .int (Int32.ofNat o), .int (Int32.ofNat len)]) (rest := []) rfl rfl (by show 2 * 0 + 0 ≤ _; decide) (hb hbytes d36) (⟨rfl, hA.mv X5.warmed.alike hh5, l1, l2, hp⟩)
  obtain ⟨e8, z8⟩ := E8
  obtain ⟨rfl, N, n1, n2, n3, n4, n5, n6⟩ := NewArr.mv _ T5 s _ _ hh5.symm (Vm.Alike.refl _) rfl e8
  rw [hh5] at z8
  have hB1 := hB.keep X8.warmed.alike (n6 _ _ hB.1)
  have hne : s.heap.size ≠ a := (Nat.ne_of_lt (Array.getElem?_eq_some_iff.mp hB.1).1).symm
  have c9 : Steps p.tables e below (s₁.setTop (entryFrame m #[.ref a, .ref b, .int (Int32.ofNat o), .int (Int32.ofNat len), .null] 6)) (T8.setTop (mkF m 39 #[.val (.ref a), .val (.ref b), .val (.int (Int32.ofNat o)), .val (.int (Int32.ofNat len)), .val .null, .unset] [.ref s.heap.size])) := g8
  have c10 : Steps p.tables e below (s₁.setTop (entryFrame m #[.ref a, .ref b, .int (Int32.ofNat o), .int (Int32.ofNat len), .null] 6)) (T8.setTop (mkF m 45 #[.val (.ref a), .val (.ref b), .val (.int (Int32.ofNat o)), .val (.int (Int32.ofNat len)), .val .null, .val (.ref s.heap.size)] [.int (Int32.ofNat N.slots.size), .ref s.heap.size, .ref a])) := by
    have hc : Steps p.tables e below (s₁.setTop (entryFrame m #[.ref a, .ref b, .int (Int32.ofNat o), .int (Int32.ofNat len), .null] 6)) (T8.setTop (mkF m 45 #[.val (.ref a), .val (.ref b), .val (.int (Int32.ofNat o)), .val (.int (Int32.ofNat len)), .val .null, .val (.ref s.heap.size)] [.int (Int32.ofNat len), .ref s.heap.size, .ref a])) := c9.trans (by
      refine XS.astore X8.here hexec rfl (hb hbytes d39) rfl rfl rfl ?_
      refine XS.aloadN X8.here hexec rfl (hb hbytes d41) rfl rfl ?_
      refine XS.aload X8.here hexec rfl (hb hbytes d42) rfl rfl ?_
      refine XS.iloadN X8.here hexec rfl (hb hbytes d44) rfl ?_
      exact Steps.refl _)
    rw [n4]; exact hc
  obtain ⟨v11, T11, X11, E11, g11⟩ := X8.callS hexec (CodL.law l s.heap.size N) hown (wks W (staticW "java/lang/String" 47 CodL.yN)) (wk W CodL.tab) (W := 1) (Nat.le_of_ble_eq_true rfl) (Nat.le_of_ble_eq_true rfl) (Nat.le_refl _) (by show 0 + len + 0 ≤ len; omega) (g := (mkF m 45 #[.val (.ref a), .val (.ref b), .val (.int (Int32.ofNat o)), .val (.int (Int32.ofNat len)), .val .null, .val (.ref s.heap.size)] [.int (Int32.ofNat N.slots.size), .ref s.heap.size, .ref a])) rfl (by rw [hml]; rfl) c10 (argsL := [.ref s.heap.size, .int (Int32.ofNat N.slots.size)]) (rest := [.ref a]) rfl rfl (by show 2 * 0 + (1 + 0) ≤ _; decide) (hb hbytes d45) (⟨rfl, n1⟩)
  obtain ⟨rfl, q11⟩ := E11
  have hB11 := hB1.mv (X8.warmed.alike.symm.trans X11.warmed.alike) q11
  have c12 : Steps p.tables e below (s₁.setTop (entryFrame m #[.ref a, .ref b, .int (Int32.ofNat o), .int (Int32.ofNat len), .null] 6)) (T11.setTop (mkF m 48 #[.val (.ref a), .val (.ref b), .val (.int (Int32.ofNat o)), .val (.int (Int32.ofNat len)), .val .null, .val (.ref s.heap.size)] [.int 0, .ref a])) := g11
  obtain ⟨T13, X13, p13, bl13, sl13, st13⟩ := X11.finit hexec hown (wk W (.fieldLink "java/lang/String" 15 "java/lang/String" "coder" "B")) (Or.inr ⟨_, (wk W (.laysFinal "java/lang/String" "java/lang/String" "coder" "B"))⟩) (Or.inl ⟨rfl, hnm⟩) f2 (Or.inl rfl) hB11 (t := .byte) (by decide +kernel) rfl (g := (mkF m 48 #[.val (.ref a), .val (.ref b), .val (.int (Int32.ofNat o)), .val (.int (Int32.ofNat len)), .val .null, .val (.ref s.heap.size)] [.int 0, .ref a])) rfl (rest := []) rfl (hb hbytes d48)
  have c14 : Steps p.tables e below (s₁.setTop (entryFrame m #[.ref a, .ref b, .int (Int32.ofNat o), .int (Int32.ofNat len), .null] 6)) (T13.setTop (mkF m 54 #[.val (.ref a), .val (.ref b), .val (.int (Int32.ofNat o)), .val (.int (Int32.ofNat len)), .val .null, .val (.ref s.heap.size)] [.ref s.heap.size, .ref a])) := (c12.trans (st13 _ (Steps.refl _))).trans (by
    refine XS.aloadN X13.here hexec rfl (hb hbytes d51) rfl rfl ?_
    refine XS.aload X13.here hexec rfl (hb hbytes d52) rfl rfl ?_
    exact Steps.refl _)
  obtain ⟨T15, X15, p15, bl15, sl15, st15⟩ := X13.finit hexec hown (wk W (.fieldLink "java/lang/String" 9 "java/lang/String" "value" "[B")) (Or.inr ⟨_, (wk W (.laysFinal "java/lang/String" "java/lang/String" "value" "[B"))⟩) (Or.inl ⟨rfl, hnm⟩) f1 (Or.inl rfl) bl13 (t := (.array .byte)) (by decide +kernel) rfl (g := (mkF m 54 #[.val (.ref a), .val (.ref b), .val (.int (Int32.ofNat o)), .val (.int (Int32.ofNat len)), .val .null, .val (.ref s.heap.size)] [.ref s.heap.size, .ref a])) rfl (rest := []) rfl (hb hbytes d54)
  have c16 : Steps p.tables e below (s₁.setTop (entryFrame m #[.ref a, .ref b, .int (Int32.ofNat o), .int (Int32.ofNat len), .null] 6)) (T15.setTop (mkF m 57 #[.val (.ref a), .val (.ref b), .val (.int (Int32.ofNat o)), .val (.int (Int32.ofNat len)), .val .null, .val (.ref s.heap.size)] [])) := c14.trans (st15 _ (Steps.refl _))
  have ap := apart (Or.inr ⟨_, (wk W (.laysFinal "java/lang/String" "java/lang/String" "value" "[B"))⟩) (Or.inr ⟨_, (wk W (.laysFinal "java/lang/String" "java/lang/String" "coder" "B"))⟩) f1 f2 (t₁ := .array .byte) (t₂ := .byte) (by decide +kernel) (by decide +kernel) (by decide)
  have al := X8.warmed.alike.symm.trans X15.warmed.alike
  have n7 : T11.heap[s.heap.size]? = some N := by rw [q11]; exact n1.1
  exact ⟨T15, none, _, _, _, X15, by simp, rfl, by omega, (fun _ => rfl), ⟨rfl, _, N, bl15, ((Same.refl D _).set _ (by simp)).set _ (by simp), sl15, (Cell.slots_setSlot_ne _ ap).trans sl13, n1.keep al (p15.other hne (p13.other hne n7)), n2, by rw [al.findClass]; exact n3, n4, n5, fun y c h1 h2 => p15.other h1 (p13.other h1 (by rw [q11]; exact n6 y c h2)), by rw [p15.2.2, p13.2.2, q11]; exact z8⟩, fun fs hl => c16.trans (X15.returnOut hexec hret (hb hbytes d57) hl)⟩
end New4
namespace New1
def yN : MethodName := ⟨"java/lang/String", "<init>", "([C)V"⟩
abbrev yB : ByteArray := jdk_42_method_3_code
theorem d0 : decode yB 0 = .ok (.aload_n 0, 1) := by decide +kernel
theorem d1 : decode yB 1 = .ok (.aload_n 1, 1) := by decide +kernel
theorem d2 : decode yB 2 = .ok (.iconst 0, 1) := by decide +kernel
theorem d3 : decode yB 3 = .ok (.aload_n 1, 1) := by decide +kernel
theorem d4 : decode yB 4 = .ok (.arraylength, 1) := by decide +kernel
theorem d5 : decode yB 5 = .ok (.aconst_null, 1) := by decide +kernel
theorem d6 : decode yB 6 = .ok (.invokespecial 27, 3) := by decide +kernel
theorem d9 : decode yB 9 = .ok (.return_, 1) := by decide +kernel
def site : List Cond := [New4.tab] ++ initW "java/lang/String" 27 New4.yN
def tab : Cond := tabOf yN yB 2 none site
def P (a : Addr) (D : Cell) (fV fC : Field) (b : Addr) (A : Cell) (z : Int32) (args : Array Value) (s : State) : Prop := args = #[.ref a, .ref b] ∧ Blank "java/lang/String" a D s ∧ Found "java/lang/String" "value" "[B" fV s ∧ Found "java/lang/String" "coder" "B" fC s ∧ Ch b A s ∧ StaticIs s "java/lang/String" "COMPACT_STRINGS" "Z" (.int z) ∧ ¬ z = 0 ∧ 0 < A.slots.size ∧ A.slots.size ≤ 536870912 ∧ ∀ i, i < A.slots.size → ¬ 255 < cv A i
def E (a : Addr) (D : Cell) (fV fC : Field) (A : Cell) (r : Option Value) (s u : State) : Prop := Got a D fV fC A 0 A.slots.size r s u
/-- new String(chars), not empty, no char above 255: a Latin-1 String of their low bytes -/
theorem law (l : Launch) (a : Addr) (D : Cell) (fV fC : Field) (b : Addr) (A : Cell) (z : Int32) : Law l yN 2 1 3 52 yB 2 none site (P a D fV fC b A z) (E a D fV fC A) [⟨a, fC.slot⟩, ⟨a, fV.slot⟩] 1 A.slots.size := by
  refine Law.of_walk (plainFor_of_name (by decide +kernel)) (by decide +kernel) (by decide +kernel) (by decide) (fun _ _ h => by rw [h.1]; rfl) (fun _ U U' hal hh h => ⟨h.1, h.2.1.mv hal hh, h.2.2.1.al hal, h.2.2.2.1.al hal, h.2.2.2.2.1.mv hal hh, h.2.2.2.2.2.1.there hal hh, h.2.2.2.2.2.2⟩) (fun r U U' V V' h1 hal h2 h => Got.mv r U U' V V' h1 hal h2 h) ?_
  intro p e s m args below meth c s₁ X0 hexec hbytes hml hret hlk hnm hown hh0 W hP
  obtain ⟨rfl, hB, f1, f2, hA, s1, hz, l0, l2, hp⟩ := hP
  have c1 : Steps p.tables e below (s₁.setTop (entryFrame m #[.ref a, .ref b] 2)) (s₁.setTop (mkF m 0 #[.val (.ref a), .val (.ref b)] [])) := entry rfl
  have c2 : Steps p.tables e below (s₁.setTop (entryFrame m #[.ref a, .ref b] 2)) (s₁.setTop (mkF m 6 #[.val (.ref a), .val (.ref b)] [.null, .int (Int32.ofNat A.slots.size), .int 0, .ref b, .ref a])) := c1.trans (by
    refine XS.aloadN X0.here hexec rfl (hb hbytes d0) rfl rfl ?_
    refine XS.aloadN X0.here hexec rfl (hb hbytes d1) rfl rfl ?_
    refine iconstV X0.here hexec rfl 0 (hb hbytes d2) (by decide) ?_
    refine XS.aloadN X0.here hexec rfl (hb hbytes d3) rfl rfl ?_
    refine X0.alen hexec (hA.1.mv X0.warmed.alike hh0) rfl rfl (hb hbytes d4) ?_
    refine XS.aconstNull X0.here hexec rfl (hb hbytes d5) ?_
    exact Steps.refl _)
  obtain ⟨v3, T3, X3, E3, g3⟩ := X0.callN hexec (New4.law l a D fV fC b A z 0 A.slots.size) rfl hown (wks W (initW "java/lang/String" 27 New4.yN)) (W New4.tab (by simp only [site, List.mem_cons, List.mem_append, true_or, or_true])) (W := 0) (Nat.le_of_ble_eq_true rfl) (Nat.le_of_ble_eq_true rfl) (Nat.le_refl _) (by show 0 + A.slots.size ≤ A.slots.size; omega) (g := (mkF m 6 #[.val (.ref a), .val (.ref b)] [.null, .int (Int32.ofNat A.slots.size), .int (Int32.ofNat 0), .ref b, .ref a])) rfl (by rw [hml]; rfl) c2 (argsL := [.ref b, .int (Int32.ofNat 0), .int (Int32.ofNat A.slots.size), .null]) (rest := []) rfl rfl (by show 2 * 0 + 0 ≤ _; decide) (hb hbytes d6) (⟨rfl, hB.mv X0.warmed.alike hh0, f1.al X0.warmed.alike, f2.al X0.warmed.alike, hA.mv X0.warmed.alike hh0, s1.there X0.warmed.alike hh0, hz, l0, by omega, l2, fun i hi => by rw [Nat.zero_add]; exact hp i hi⟩)
  have e0 := Got.mv _ s₁ s _ _ hh0.symm (Vm.Alike.refl _) rfl E3
  obtain rfl := e0.1
  have c4 : Steps p.tables e below (s₁.setTop (entryFrame m #[.ref a, .ref b] 2)) (T3.setTop (mkF m 9 #[.val (.ref a), .val (.ref b)] [])) := g3
  exact ⟨T3, none, _, _, _, X3, by simp, rfl, by omega, (fun _ => rfl), e0, fun fs hl => c4.trans (X3.returnOut hexec hret (hb hbytes d9) hl)⟩
theorem pays {l : Launch} {R : Room} {p : Program} {e : Env} {below : List Frame} {s : State} {sargs : Array Value} {len W : Nat} (a : Addr) (D : Cell) (fV fC : Field) (b : Addr) (A : Cell) (z : Int32) (htab : tab.before sargs s = true) (hfr : 4 ≤ R.frames) (hlo : W + 65 ≤ R.locals) :
    Back l R p e below s sargs yN len W (fun A₁ a₁ => A₁.cells + 1 ≤ R.cells ∧ A₁.slots + A.slots.size ≤ R.slots ∧ P a D fV fC b A z a₁ A₁.U) (fun A₁ _ v₁ B₁ => E a D fV fC A v₁ A₁.U B₁.U ∧ B₁.locs = A₁.locs ++ [⟨a, fC.slot⟩, ⟨a, fV.slot⟩] ∧ B₁.cells = A₁.cells + 1 ∧ B₁.slots = A₁.slots + A.slots.size) :=
  (law l a D fV fC b A z).pays htab hfr (by omega)
end New1
/-- the byte, read back as charAt reads it, is the char -/
theorem lo8_mask {x : Int32} (h0 : ¬ x < 0) (h1 : ¬ 255 < x) : lo8 x &&& 255 = x := by
  have t : ∀ k : Fin 256, lo8 (Int32.ofNat k.val) &&& 255 = Int32.ofNat k.val := by decide +kernel
  rw [Int32.lt_iff_toInt_lt] at h0 h1
  have e0 : (0 : Int32).toInt = 0 := rfl
  have e1 : (255 : Int32).toInt = 255 := rfl
  obtain ⟨k, hk⟩ : ∃ k : Nat, x.toInt = k := ⟨x.toInt.toNat, by omega⟩
  have hx : x = Int32.ofNat k := Int32.toInt_inj.mp (by rw [hk, Int32.toInt_ofNat_small (by omega)])
  rw [hx]
  exact t ⟨k, by omega⟩
end StrChars
namespace StrChars.Road
open Jvm Sem ClassFile Op Lib Jvm.Stand Jvm.Free Jvm.Free.XT
open Jvm.Lib.Cold (StaticIs)
abbrev ST : String := "java/lang/String"
/-- every table word that New1's law asks, flat -/
abbrev words : List Jvm.Cond := [.code New1.yN New1.yB 2 none, .initialized ST, .methodLink ST 27 New4.yN, .instanceMethod New4.yN,
  .code New4.yN New4.yB 6 none, .fieldLink ST 38 ST "COMPACT_STRINGS" "Z", .laysFinal ST ST "value" "[B", .fieldLink ST 9 ST "value" "[B", .laysFinal ST ST "coder" "B", .fieldLink ST 15 ST "coder" "B",
  .methodLink ST 1 Lib.objectInit, .instanceMethod Lib.objectInit, .code Lib.objectInit ⟨#[0xb1]⟩ 1 none, .methodLink ST 177 Cmp3.yN, .static Cmp3.yN, .methodLink ST 47 CodL.yN, .static CodL.yN,
  .code Cmp3.yN Cmp3.yB 6 (some (.array .byte)), .initialized U16, .arrayClass .byte, .methodLink U16 115 Cmp5.yN, .static Cmp5.yN, .code Cmp5.yN Cmp5.yB 7 (some .int), .code CodL.yN CodL.yB 2 (some .byte)]
theorem tab_of {a : Array Value} {s : State} (h : ∀ w ∈ words, w.before a s = true) : New1.tab.before a s = true := by
  have h5 : Cmp5.tab.before a s = true := unparts (wk h (.code Cmp5.yN Cmp5.yB 7 (some .int))) (wks h (.initialized Cmp5.yN.cls :: Cmp5.site))
  have hc : CodL.tab.before a s = true := unparts (wk h (.code CodL.yN CodL.yB 2 (some .byte))) (wks h (.initialized CodL.yN.cls :: CodL.site))
  have q5 : ∀ w ∈ Cmp5.tab :: words, w.before a s = true := fun w hw => (List.mem_cons.mp hw).elim (fun e => e ▸ h5) (h w)
  have h3 : Cmp3.tab.before a s = true := unparts (wk q5 (.code Cmp3.yN Cmp3.yB 6 (some (.array .byte)))) (wks q5 (.initialized Cmp3.yN.cls :: Cmp3.site))
  have q3 : ∀ w ∈ Cmp3.tab :: CodL.tab :: words, w.before a s = true := fun w hw => (List.mem_cons.mp hw).elim (fun e => e ▸ h3) fun hw => (List.mem_cons.mp hw).elim (fun e => e ▸ hc) (h w)
  have h4 : New4.tab.before a s = true := unparts (wk q3 (.code New4.yN New4.yB 6 none)) (wks q3 (.initialized New4.yN.cls :: New4.site))
  have q4 : ∀ w ∈ New4.tab :: words, w.before a s = true := fun w hw => (List.mem_cons.mp hw).elim (fun e => e ▸ h4) (h w)
  exact unparts (wk q4 (.code New1.yN New1.yB 2 none)) (wks q4 (.initialized New1.yN.cls :: New1.site))
/-- the words ride from the start Z to the walk's own state -/
theorem moved {Z s : State} {a0 args : Array Value} (hZ : Z.Warmed39 s.vm) (hw : ∀ d ∈ words, d.before a0 Z = true) : ∀ d ∈ words, d.before args s = true := fun d hd => by
  have q := hw d hd
  have t : ∀ d ∈ words, d = .arrayClass .byte ∨ (d.onTables && d.keepsFace) = true := by decide +kernel
  rcases t d hd with rfl | t
  · exact RoadKit.mvA hZ q
  · exact RoadKit.mv hZ q t
/-- WHAT COMES BACK, over the tables of the start Z: h the heap at the call, h' behind it -/
def Q (Z : State) (x : Addr) (A : Cell) (h : Heap) (v : Option Value) (h' : Heap) (L : List Loc) : Prop := v = none ∧ (∀ y ∈ L, y.base = x) ∧ RoadKit.Keep h h' [x] ∧ h'.size = h.size + 1 ∧ RoadKit.Exa Z h' x ST ∧ RoadKit.Fld Z h' x ST "value" "[B" (.ref h.size) ∧ RoadKit.Fld Z h' x ST "coder" "B" (.int 0) ∧
  (∃ V : Cell, RoadKit.Arr Z h' h.size V .byte ∧ V.vm = .none ∧ Z.vm.findClass "[B" = some V.cls ∧ V.slots.size = A.slots.size ∧ ∀ j, j < A.slots.size → V.slots[j]? = some (.int (lo8 (cv A j)))) ∧
  ∀ (O n d : String) (w : Value), RoadKit.Fld Z h x O n d w → RoadKit.slotOf Z O n d ≠ RoadKit.slotOf Z ST "value" "[B" → RoadKit.slotOf Z O n d ≠ RoadKit.slotOf Z ST "coder" "B" → RoadKit.Fld Z h' x O n d w
/-- **new String(chars) AT A CALL, IN THE ROAD'S FORM**: for specialBack behind newO: x the fresh String, b the char[] with the cell A -/
theorem back {p : Program} {l : Launch} {e : Env} {R : Room} {s : State} {args : Array Value} {below : List Frame} {len W : Nat} {Z : State} {a0 : Array Value} {h : Heap} (hZ : Z.Warmed39 s.vm) (hw : ∀ d ∈ words, d.before a0 Z = true) {kI : Nat} (wi : (Jvm.Cond.instantiable ST kI).before a0 Z = true)
    {x b : Addr} {A : Cell} {z : Int32} {v0 c0 : Value} (E : RoadKit.Exa Z h x ST) (V : RoadKit.Fld Z h x ST "value" "[B" v0) (C : RoadKit.Fld Z h x ST "coder" "B" c0) (K : RoadKit.Arr Z h b A .char) (hty : Typed .char A) (S : RoadKit.Sta Z h ST "COMPACT_STRINGS" "Z" (.int z)) (hz : ¬ z = 0)
    (l0 : 0 < A.slots.size) (l2 : A.slots.size ≤ 536870912) (hp : ∀ i, i < A.slots.size → ¬ 255 < cv A i) (hfr : 4 ≤ R.frames) (hlo : W + 65 ≤ R.locals) :
    Back l R p e below s args New1.yN len W (fun P a => a = #[.ref x, .ref b] ∧ P.U.heap = h ∧ P.cells + 1 ≤ R.cells ∧ P.slots + A.slots.size ≤ R.slots)
      (fun P _ v B => ∃ L, Q Z x A h v B.U.heap L ∧ B.locs = P.locs ++ L ∧ B.cells = P.cells + 1 ∧ B.slots = P.slots + A.slots.size) := by
  intro m meth c P g ig mk a X hg hsize hdg hW hn hp'
  obtain ⟨rfl, rfl, r1, r2⟩ := hp'
  have al : Z.vm.Alike P.U.vm := hZ.alike.trans X.warmed.alike
  obtain ⟨D, cfV, kV, iV, fV, hD, gV, stV, knV, obV, asV, slV⟩ := id V
  obtain ⟨D', cfC, kC, iC, fC, hD', gC, stC, -, -, asC, slC⟩ := id C
  cases hD.symm.trans hD'
  obtain ⟨D2, kD, e1, e2, e3, e4, e5⟩ := id E
  cases hD.symm.trans e1
  obtain ⟨c2, k2, i1, i2, i3, -⟩ := Cond.instantiable_spec wi
  cases e2.symm.trans i1
  cases e3.symm.trans i2
  obtain ⟨kU, u1, u2⟩ := al.2.2 _ _ e3
  have hB : Blank ST x D P.U := ⟨hD, ⟨knV, fun q hq => by rw [hq] at obV; cases obV⟩, by rw [al.findClass]; exact e2, kU, u1, by rw [u2]; exact i3, by rw [u2]; exact e5 i3⟩
  have F1 : Found ST "value" "[B" fV P.U := ⟨SBG.found_only al ⟨cfV, kV, iV, gV⟩, stV⟩
  have F2 : Found ST "coder" "B" fC P.U := ⟨SBG.found_only al ⟨cfC, kC, iC, gC⟩, stC⟩
  have hA : Ch b A P.U := ⟨⟨K.1, State.isArrayOf_alike al K.2.1, K.2.2, by omega⟩, hty⟩
  have hS : StaticIs P.U ST "COMPACT_STRINGS" "Z" (.int z) := by
    obtain ⟨cfS, iS, kS, fS, st, cS, t1, t2, t3, t4, t5, t6, t7⟩ := S
    exact StaticIs.there (s := { Z with heap := P.U.heap }) ⟨cfS, iS, kS, fS, st, cS, t1, t2, t3, t4, t5, (fun q => by rw [q] at t6; cases t6), t7⟩ al rfl
  obtain ⟨v, B, X', ⟨⟨hv, E', V', q1, q2, q3, q4, q5, q6, q7, q8, q9, q10, q11⟩, hl, hc, hs⟩, st⟩ := New1.pays x D fV fC b A z (tab_of (moved hZ hw)) hfr hlo m meth c P g ig mk _ X hg hsize hdg hW hn ⟨r1, r2, rfl, hB, F1, F2, hA, hS, hz, l0, l2, hp⟩
  have al' : Z.vm.Alike B.U.vm := hZ.alike.trans X'.warmed.alike
  have hsz : E'.slots.size = D.slots.size := by
    obtain ⟨-, -, -, kB, w1, w2, w3⟩ := q1
    obtain ⟨kB', y1, y2⟩ := al'.2.2 _ _ e3
    rw [q2.2.1] at w1
    cases w1.symm.trans y1
    rw [w3, e5 i3, y2]
  refine ⟨v, B, X', ⟨_, ⟨hv, ?_, ⟨by omega, fun y cy hy hn' => q10 y cy (by simpa using hn') hy, fun y cy hy => ?_⟩, q11, ⟨E', _, q1.1, by rw [q2.2.1]; exact e2, by rw [q2.2.1]; exact e3, by rw [q2.1]; exact obV, fun _ => by rw [hsz]; exact e5 i3⟩,
    ⟨E', cfV, kV, iV, fV, q1.1, gV, stV, by rw [q2.1]; exact knV, by rw [q2.1]; exact obV, by rw [q2.2.1]; exact asV, q3⟩, ⟨E', cfC, kC, iC, fC, q1.1, gC, stC, by rw [q2.1]; exact knV, by rw [q2.1]; exact obV, by rw [q2.2.1]; exact asC, q4⟩,
    ⟨V', ⟨q5.1, State.isArrayOf_alike al'.symm q5.2.1, q5.2.2.1⟩, q6, by rw [← al'.findClass]; exact q7, q8, fun j hj => by have := q9 j hj; rwa [Nat.zero_add] at this⟩, fun O n d w F n1 n2 => ?_⟩, hl, hc, hs⟩, st⟩
  · intro y hy
    simp only [List.mem_cons, List.not_mem_nil, or_false] at hy
    rcases hy with rfl | rfl <;> rfl
  · by_cases q : y = x
    · subst q
      cases hD.symm.trans hy
      exact ⟨E', q1.1, q2.2.1, q2.1, hsz⟩
    · exact ⟨cy, q10 y cy q hy, rfl, rfl, rfl⟩
  · obtain ⟨D3, cf, k, i, f, g1, g2, g3, g4, g5, g6, g7⟩ := F
    cases hD.symm.trans g1
    simp only [RoadKit.slotOf, g2, gV, gC, Option.map_some, Option.getD_some] at n1 n2
    exact ⟨E', cf, k, i, f, q1.1, g2, g3, by rw [q2.1]; exact g4, by rw [q2.1]; exact g5, by rw [q2.2.1]; exact g6, by rw [q2.2.2 f.slot (by simp [n1, n2])]; exact g7⟩
end StrChars.Road
namespace StrChars.Road
open Jvm Sem ClassFile Op Lib Jvm.Stand Jvm.Free Jvm.Free.XT
/-- WHAT COMES BACK, the byte[] as a list of values -/
def QA (Z : State) (x : Addr) (zn : Int32) (cs : List Int32) (h : Heap) (v : Option Value) (h' : Heap) (L : List Loc) : Prop := v = none ∧ (∀ y ∈ L, y.base = x) ∧ RoadKit.Keep h h' [x] ∧ h'.size = h.size + 1 ∧ RoadKit.Exa Z h' x ST ∧ RoadKit.Fld Z h' x ST "value" "[B" (.ref h.size) ∧ RoadKit.Fld Z h' x ST "coder" "B" (.int 0) ∧
  (∃ kb, Z.vm.findClass "[B" = some kb ∧ RoadKit.Arv Z h' h.size kb .byte zn (cs.map fun c => .int (lo8 c)) (.int 0)) ∧
  ∀ (O n d : String) (w : Value), RoadKit.Fld Z h x O n d w → RoadKit.slotOf Z O n d ≠ RoadKit.slotOf Z ST "value" "[B" → RoadKit.slotOf Z O n d ≠ RoadKit.slotOf Z ST "coder" "B" → RoadKit.Fld Z h' x O n d w
/-- **new String(chars) AT A CALL, THE ARRAYS AS LISTS**: the char[] at b holds cs, not empty, no char above 255 -/
theorem backArv {p : Program} {l : Launch} {e : Env} {R : Room} {s : State} {args : Array Value} {below : List Frame} {len W : Nat} {Z : State} {a0 : Array Value} {h : Heap} (hZ : Z.Warmed39 s.vm) (hw : ∀ d ∈ words, d.before a0 Z = true) {kI : Nat} (wi : (Jvm.Cond.instantiable ST kI).before a0 Z = true)
    {x b : Addr} {k : ClassId} {zn z : Int32} {cs : List Int32} {dv v0 c0 : Value} (E : RoadKit.Exa Z h x ST) (V : RoadKit.Fld Z h x ST "value" "[B" v0) (C : RoadKit.Fld Z h x ST "coder" "B" c0) (K : RoadKit.Arv Z h b k .char zn (cs.map Value.int) dv) (S : RoadKit.Sta Z h ST "COMPACT_STRINGS" "Z" (.int z)) (hz : ¬ z = 0)
    (hlen : zn.toNatClampNeg = cs.length) (h0 : 0 < cs.length) (hbig : cs.length ≤ 536870912) (hall : ∀ c ∈ cs, ¬ 255 < c) (hfr : 4 ≤ R.frames) (hlo : W + 65 ≤ R.locals) :
    Back l R p e below s args New1.yN len W (fun P a => a = #[.ref x, .ref b] ∧ P.U.heap = h ∧ P.cells + 1 ≤ R.cells ∧ P.slots + cs.length ≤ R.slots)
      (fun P _ v B => ∃ L, QA Z x zn cs h v B.U.heap L ∧ B.locs = P.locs ++ L ∧ B.cells = P.cells + 1 ∧ B.slots = P.slots + cs.length) := by
  obtain ⟨A, K1, K2, K3, K4, K5, K6⟩ := K
  have e : A.slots.size = cs.length := K3.trans hlen
  have hat : ∀ (i : Nat) (hi : i < cs.length), A.slots[i]? = some (.int cs[i]) := fun i hi => by rw [K5 i (by omega)]; simp [List.getD_eq_getElem?_getD, hi]
  have hcv : ∀ (i : Nat) (hi : i < cs.length), cv A i = cs[i] := fun i hi => by unfold cv; rw [hat i hi]
  have hty : Typed .char A := fun i v hv => by
    have hi : i < A.slots.size := (Array.getElem?_eq_some_iff.mp hv).1
    have q := K5 i hi
    rw [hv] at q
    rw [Option.some.inj q]
    exact K6 i hi
  refine Back.mono (back hZ hw wi E V C K1 hty S hz (by omega) (by omega) (fun i hi => by rw [hcv i (by omega)]; exact hall _ (List.getElem_mem _)) hfr hlo) (fun P a hp => ⟨hp.1, hp.2.1, hp.2.2.1, by rw [e]; exact hp.2.2.2⟩) (fun P a v B hp hq => ?_)
  obtain ⟨L, ⟨q1, q2, q3, q4, q5, q6, q7, ⟨V', v1, v2, v3, v4, v5⟩, q9⟩, hl, hc, hs⟩ := hq
  refine ⟨L, ⟨q1, q2, q3, q4, q5, q6, q7, ⟨V'.cls, v3, V', v1, rfl, by rw [v4, e, hlen], K4, fun i hi => ?_, fun i hi => ?_⟩, q9⟩, hl, hc, by rw [hs, e]⟩
  · have hi' : i < cs.length := by omega
    rw [v5 i (by omega), hcv i hi']; simp [List.getD_eq_getElem?_getD, hi']
  · have hi' : i < cs.length := by omega
    simp only [List.getD_eq_getElem?_getD, List.getElem?_map, List.getElem?_eq_getElem hi', Option.map_some, Option.getD_some]
    exact fits_lo8 _
end StrChars.Road
end Jvm.Pilot.@@N@@
namespace Jvm.Pilot.@@N@@
open Jvm Jvm.ClassFile Sem Op Lib Jvm.Free Jvm.Stand Jvm.LawKit Jvm.RoadKit Bundle Jvm.Pilot.@@N@@.Jvm.D Jvm.Wk
theorem wd0 {a0 : Array Value} {Z : State} (hw : ∀ d ∈ tables_1, d.before a0 Z = true) : (Jvm.Cond.fieldLink "com/example/cubeset/cubeset/sql/SessionSettingMayChangeReadingOfPinLaw" (12 : Nat) "com/example/cubeset/cubeset/sql/SessionSetting" "ANSI_QUOTES" "Lcom/example/cubeset/cubeset/sql/SessionSetting;").before a0 Z = true := hw _ (List.mem_of_getElem? (i := 0) rfl)
theorem wd1 {a0 : Array Value} {Z : State} (hw : ∀ d ∈ tables_1, d.before a0 Z = true) : (Jvm.Cond.initialized "com/example/cubeset/cubeset/sql/SessionSetting").before a0 Z = true := hw _ (List.mem_of_getElem? (i := 1) rfl)
theorem wd2 {a0 : Array Value} {Z : State} (hw : ∀ d ∈ tables_1, d.before a0 Z = true) : (Jvm.Cond.laysStatic "com/example/cubeset/cubeset/sql/SessionSetting" "ANSI_QUOTES" "Lcom/example/cubeset/cubeset/sql/SessionSetting;").before a0 Z = true := hw _ (List.mem_of_getElem? (i := 2) rfl)
theorem wd3 {a0 : Array Value} {Z : State} (hw : ∀ d ∈ tables_1, d.before a0 Z = true) : (Jvm.Cond.methodLink "com/example/cubeset/cubeset/sql/SessionSettingMayChangeReadingOfPinLaw" (21 : Nat) ({ cls := "com/example/cubeset/cubeset/sql/SessionSettingMayChangeReadingOfPinLaw", name := "pick", desc := "(I)C" } : Jvm.MethodName)).before a0 Z = true := hw _ (List.mem_of_getElem? (i := 3) rfl)
theorem wd4 {a0 : Array Value} {Z : State} (hw : ∀ d ∈ tables_1, d.before a0 Z = true) : (Jvm.Cond.static ({ cls := "com/example/cubeset/cubeset/sql/SessionSettingMayChangeReadingOfPinLaw", name := "pick", desc := "(I)C" } : Jvm.MethodName)).before a0 Z = true := hw _ (List.mem_of_getElem? (i := 4) rfl)
theorem wd5 {a0 : Array Value} {Z : State} (hw : ∀ d ∈ tables_1, d.before a0 Z = true) : (Jvm.Cond.initialized "com/example/cubeset/cubeset/sql/SessionSettingMayChangeReadingOfPinLaw").before a0 Z = true := hw _ (List.mem_of_getElem? (i := 5) rfl)
theorem wd6 {a0 : Array Value} {Z : State} (hw : ∀ d ∈ tables_1, d.before a0 Z = true) : (Jvm.Cond.code ({ cls := "com/example/cubeset/cubeset/sql/SessionSettingMayChangeReadingOfPinLaw", name := "pick", desc := "(I)C" } : Jvm.MethodName) method_2_code (2 : Nat) (Option.some Jvm.ClassFile.FieldType.char)).before a0 Z = true := hw _ (List.mem_of_getElem? (i := 6) rfl)
theorem wd7 {a0 : Array Value} {Z : State} (hw : ∀ d ∈ tables_1, d.before a0 Z = true) : (Jvm.Cond.methodLink "com/example/cubeset/cubeset/sql/SessionSettingMayChangeReadingOfPinLaw" (27 : Nat) ({ cls := "com/example/cubeset/cubeset/sql/SessionSettingMayChangeReadingOfPinLaw", name := "build", desc := "(ICCC)Ljava/lang/String;" } : Jvm.MethodName)).before a0 Z = true := hw _ (List.mem_of_getElem? (i := 7) rfl)
theorem wd8 {a0 : Array Value} {Z : State} (hw : ∀ d ∈ tables_1, d.before a0 Z = true) : (Jvm.Cond.static ({ cls := "com/example/cubeset/cubeset/sql/SessionSettingMayChangeReadingOfPinLaw", name := "build", desc := "(ICCC)Ljava/lang/String;" } : Jvm.MethodName)).before a0 Z = true := hw _ (List.mem_of_getElem? (i := 8) rfl)
theorem wd9 {a0 : Array Value} {Z : State} (hw : ∀ d ∈ tables_1, d.before a0 Z = true) : (Jvm.Cond.code ({ cls := "com/example/cubeset/cubeset/sql/SessionSettingMayChangeReadingOfPinLaw", name := "build", desc := "(ICCC)Ljava/lang/String;" } : Jvm.MethodName) method_3_code (4 : Nat) (Option.some (Jvm.ClassFile.FieldType.object "java/lang/String"))).before a0 Z = true := hw _ (List.mem_of_getElem? (i := 9) rfl)
theorem wd10 {a0 : Array Value} {Z : State} (hw : ∀ d ∈ tables_1, d.before a0 Z = true) : (Jvm.Cond.classLink "com/example/cubeset/cubeset/sql/SessionSettingMayChangeReadingOfPinLaw" (7 : Nat) "java/lang/String").before a0 Z = true := hw _ (List.mem_of_getElem? (i := 10) rfl)
theorem wd11 {a0 : Array Value} {Z : State} (hw : ∀ d ∈ tables_1, d.before a0 Z = true) : (Jvm.Cond.instantiable "java/lang/String" (4 : Nat)).before a0 Z = true := hw _ (List.mem_of_getElem? (i := 11) rfl)
theorem wd12 {a0 : Array Value} {Z : State} (hw : ∀ d ∈ tables_1, d.before a0 Z = true) : (Jvm.Cond.initialized "java/lang/String").before a0 Z = true := hw _ (List.mem_of_getElem? (i := 12) rfl)
theorem wd13 {a0 : Array Value} {Z : State} (hw : ∀ d ∈ tables_1, d.before a0 Z = true) : (Jvm.Cond.arrayClass Jvm.ClassFile.FieldType.char).before a0 Z = true := hw _ (List.mem_of_getElem? (i := 13) rfl)
theorem wd14 {a0 : Array Value} {Z : State} (hw : ∀ d ∈ tables_1, d.before a0 Z = true) : (Jvm.Cond.methodLink "com/example/cubeset/cubeset/sql/SessionSettingMayChangeReadingOfPinLaw" (9 : Nat) ({ cls := "java/lang/String", name := "<init>", desc := "([C)V" } : Jvm.MethodName)).before a0 Z = true := hw _ (List.mem_of_getElem? (i := 14) rfl)
theorem wd15 {a0 : Array Value} {Z : State} (hw : ∀ d ∈ tables_1, d.before a0 Z = true) : (Jvm.Cond.instanceMethod ({ cls := "java/lang/String", name := "<init>", desc := "([C)V" } : Jvm.MethodName)).before a0 Z = true := hw _ (List.mem_of_getElem? (i := 15) rfl)
theorem wd16 {a0 : Array Value} {Z : State} (hw : ∀ d ∈ tables_1, d.before a0 Z = true) : (Jvm.Cond.code ({ cls := "java/lang/String", name := "<init>", desc := "([C)V" } : Jvm.MethodName) jdk_42_method_3_code (2 : Nat) (Option.none : Option Jvm.ClassFile.FieldType)).before a0 Z = true := hw _ (List.mem_of_getElem? (i := 16) rfl)
theorem wd17 {a0 : Array Value} {Z : State} (hw : ∀ d ∈ tables_1, d.before a0 Z = true) : (Jvm.Cond.methodLink "java/lang/String" (27 : Nat) ({ cls := "java/lang/String", name := "<init>", desc := "([CIILjava/lang/Void;)V" } : Jvm.MethodName)).before a0 Z = true := hw _ (List.mem_of_getElem? (i := 17) rfl)
theorem wd18 {a0 : Array Value} {Z : State} (hw : ∀ d ∈ tables_1, d.before a0 Z = true) : (Jvm.Cond.instanceMethod ({ cls := "java/lang/String", name := "<init>", desc := "([CIILjava/lang/Void;)V" } : Jvm.MethodName)).before a0 Z = true := hw _ (List.mem_of_getElem? (i := 18) rfl)
theorem wd20 {a0 : Array Value} {Z : State} (hw : ∀ d ∈ tables_1, d.before a0 Z = true) : (Jvm.Cond.code ({ cls := "java/lang/String", name := "<init>", desc := "([CIILjava/lang/Void;)V" } : Jvm.MethodName) jdk_42_method_149_code (6 : Nat) (Option.none : Option Jvm.ClassFile.FieldType)).before a0 Z = true := hw _ (List.mem_of_getElem? (i := 20) rfl)
theorem wd21 {a0 : Array Value} {Z : State} (hw : ∀ d ∈ tables_1, d.before a0 Z = true) : (Jvm.Cond.methodLink "java/lang/String" (1 : Nat) ({ cls := "java/lang/Object", name := "<init>", desc := "()V" } : Jvm.MethodName)).before a0 Z = true := hw _ (List.mem_of_getElem? (i := 21) rfl)
theorem wd22 {a0 : Array Value} {Z : State} (hw : ∀ d ∈ tables_1, d.before a0 Z = true) : (Jvm.Cond.instanceMethod ({ cls := "java/lang/Object", name := "<init>", desc := "()V" } : Jvm.MethodName)).before a0 Z = true := hw _ (List.mem_of_getElem? (i := 22) rfl)
theorem wd23 {a0 : Array Value} {Z : State} (hw : ∀ d ∈ tables_1, d.before a0 Z = true) : (Jvm.Cond.code ({ cls := "java/lang/Object", name := "<init>", desc := "()V" } : Jvm.MethodName) object_method_1_code (1 : Nat) (Option.none : Option Jvm.ClassFile.FieldType)).before a0 Z = true := hw _ (List.mem_of_getElem? (i := 23) rfl)
theorem wd24 {a0 : Array Value} {Z : State} (hw : ∀ d ∈ tables_1, d.before a0 Z = true) : (Jvm.Cond.fieldLink "java/lang/String" (38 : Nat) "java/lang/String" "COMPACT_STRINGS" "Z").before a0 Z = true := hw _ (List.mem_of_getElem? (i := 24) rfl)
theorem wd36 {a0 : Array Value} {Z : State} (hw : ∀ d ∈ tables_1, d.before a0 Z = true) : (Jvm.Cond.fieldLink "java/lang/String" (15 : Nat) "java/lang/String" "coder" "B").before a0 Z = true := hw _ (List.mem_of_getElem? (i := 36) rfl)
theorem wd37 {a0 : Array Value} {Z : State} (hw : ∀ d ∈ tables_1, d.before a0 Z = true) : (Jvm.Cond.laysFinal "java/lang/String" "java/lang/String" "coder" "B").before a0 Z = true := hw _ (List.mem_of_getElem? (i := 37) rfl)
theorem wd38 {a0 : Array Value} {Z : State} (hw : ∀ d ∈ tables_1, d.before a0 Z = true) : (Jvm.Cond.fieldLink "java/lang/String" (9 : Nat) "java/lang/String" "value" "[B").before a0 Z = true := hw _ (List.mem_of_getElem? (i := 38) rfl)
theorem wd39 {a0 : Array Value} {Z : State} (hw : ∀ d ∈ tables_1, d.before a0 Z = true) : (Jvm.Cond.laysFinal "java/lang/String" "java/lang/String" "value" "[B").before a0 Z = true := hw _ (List.mem_of_getElem? (i := 39) rfl)
theorem wd40 {a0 : Array Value} {Z : State} (hw : ∀ d ∈ tables_1, d.before a0 Z = true) : (Jvm.Cond.methodLink "com/example/cubeset/cubeset/sql/SessionSettingMayChangeReadingOfPinLaw" (31 : Nat) ({ cls := "com/example/cubeset/cubeset/sql/SessionSetting", name := "mayChangeReadingOf", desc := "(Ljava/lang/String;)Z" } : Jvm.MethodName)).before a0 Z = true := hw _ (List.mem_of_getElem? (i := 40) rfl)
theorem wd41 {a0 : Array Value} {Z : State} (hw : ∀ d ∈ tables_1, d.before a0 Z = true) : (Jvm.Cond.declares ({ cls := "com/example/cubeset/cubeset/sql/SessionSetting", name := "mayChangeReadingOf", desc := "(Ljava/lang/String;)Z" } : Jvm.MethodName)).before a0 Z = true := hw _ (List.mem_of_getElem? (i := 41) rfl)
theorem wd42 {a0 : Array Value} {Z : State} (hw : ∀ d ∈ tables_1, d.before a0 Z = true) : (Jvm.Cond.instanceMethod ({ cls := "com/example/cubeset/cubeset/sql/SessionSetting", name := "mayChangeReadingOf", desc := "(Ljava/lang/String;)Z" } : Jvm.MethodName)).before a0 Z = true := hw _ (List.mem_of_getElem? (i := 42) rfl)
theorem wd43 {a0 : Array Value} {Z : State} (hw : ∀ d ∈ tables_1, d.before a0 Z = true) : (Jvm.Cond.selects "com/example/cubeset/cubeset/sql/SessionSetting" ({ cls := "com/example/cubeset/cubeset/sql/SessionSetting", name := "mayChangeReadingOf", desc := "(Ljava/lang/String;)Z" } : Jvm.MethodName) ({ cls := "com/example/cubeset/cubeset/sql/SessionSetting", name := "mayChangeReadingOf", desc := "(Ljava/lang/String;)Z" } : Jvm.MethodName)).before a0 Z = true := hw _ (List.mem_of_getElem? (i := 43) rfl)
theorem wd44 {a0 : Array Value} {Z : State} (hw : ∀ d ∈ tables_1, d.before a0 Z = true) : (Jvm.Cond.code ({ cls := "com/example/cubeset/cubeset/sql/SessionSetting", name := "mayChangeReadingOf", desc := "(Ljava/lang/String;)Z" } : Jvm.MethodName) prog_62_method_5_code (2 : Nat) (Option.some Jvm.ClassFile.FieldType.boolean)).before a0 Z = true := hw _ (List.mem_of_getElem? (i := 44) rfl)
theorem wd45 {a0 : Array Value} {Z : State} (hw : ∀ d ∈ tables_1, d.before a0 Z = true) : (Jvm.Cond.fieldLink "com/example/cubeset/cubeset/sql/SessionSetting" (33 : Nat) "com/example/cubeset/cubeset/sql/SessionSetting" "character" "C").before a0 Z = true := hw _ (List.mem_of_getElem? (i := 45) rfl)
theorem wd47 {a0 : Array Value} {Z : State} (hw : ∀ d ∈ tables_1, d.before a0 Z = true) : (Jvm.Cond.methodLink "com/example/cubeset/cubeset/sql/SessionSetting" (37 : Nat) ({ cls := "java/lang/String", name := "indexOf", desc := "(I)I" } : Jvm.MethodName)).before a0 Z = true := hw _ (List.mem_of_getElem? (i := 47) rfl)
theorem wd48 {a0 : Array Value} {Z : State} (hw : ∀ d ∈ tables_1, d.before a0 Z = true) : (Jvm.Cond.declares ({ cls := "java/lang/String", name := "indexOf", desc := "(I)I" } : Jvm.MethodName)).before a0 Z = true := hw _ (List.mem_of_getElem? (i := 48) rfl)
theorem wd49 {a0 : Array Value} {Z : State} (hw : ∀ d ∈ tables_1, d.before a0 Z = true) : (Jvm.Cond.instanceMethod ({ cls := "java/lang/String", name := "indexOf", desc := "(I)I" } : Jvm.MethodName)).before a0 Z = true := hw _ (List.mem_of_getElem? (i := 49) rfl)
theorem wd50 {a0 : Array Value} {Z : State} (hw : ∀ d ∈ tables_1, d.before a0 Z = true) : (Jvm.Cond.selects "java/lang/String" ({ cls := "java/lang/String", name := "indexOf", desc := "(I)I" } : Jvm.MethodName) ({ cls := "java/lang/String", name := "indexOf", desc := "(I)I" } : Jvm.MethodName)).before a0 Z = true := hw _ (List.mem_of_getElem? (i := 50) rfl)
theorem wd51 {a0 : Array Value} {Z : State} (hw : ∀ d ∈ tables_1, d.before a0 Z = true) : (Jvm.Cond.code ({ cls := "java/lang/String", name := "indexOf", desc := "(I)I" } : Jvm.MethodName) jdk_42_method_79_code (2 : Nat) (Option.some Jvm.ClassFile.FieldType.int)).before a0 Z = true := hw _ (List.mem_of_getElem? (i := 51) rfl)
theorem wd52 {a0 : Array Value} {Z : State} (hw : ∀ d ∈ tables_1, d.before a0 Z = true) : (Jvm.Cond.methodLink "java/lang/String" (633 : Nat) ({ cls := "java/lang/String", name := "indexOf", desc := "(II)I" } : Jvm.MethodName)).before a0 Z = true := hw _ (List.mem_of_getElem? (i := 52) rfl)
theorem wd53 {a0 : Array Value} {Z : State} (hw : ∀ d ∈ tables_1, d.before a0 Z = true) : (Jvm.Cond.declares ({ cls := "java/lang/String", name := "indexOf", desc := "(II)I" } : Jvm.MethodName)).before a0 Z = true := hw _ (List.mem_of_getElem? (i := 53) rfl)
theorem wd54 {a0 : Array Value} {Z : State} (hw : ∀ d ∈ tables_1, d.before a0 Z = true) : (Jvm.Cond.instanceMethod ({ cls := "java/lang/String", name := "indexOf", desc := "(II)I" } : Jvm.MethodName)).before a0 Z = true := hw _ (List.mem_of_getElem? (i := 54) rfl)
theorem wd55 {a0 : Array Value} {Z : State} (hw : ∀ d ∈ tables_1, d.before a0 Z = true) : (Jvm.Cond.selects "java/lang/String" ({ cls := "java/lang/String", name := "indexOf", desc := "(II)I" } : Jvm.MethodName) ({ cls := "java/lang/String", name := "indexOf", desc := "(II)I" } : Jvm.MethodName)).before a0 Z = true := hw _ (List.mem_of_getElem? (i := 55) rfl)
theorem wd56 {a0 : Array Value} {Z : State} (hw : ∀ d ∈ tables_1, d.before a0 Z = true) : (Jvm.Cond.code ({ cls := "java/lang/String", name := "indexOf", desc := "(II)I" } : Jvm.MethodName) jdk_42_method_80_code (3 : Nat) (Option.some Jvm.ClassFile.FieldType.int)).before a0 Z = true := hw _ (List.mem_of_getElem? (i := 56) rfl)
theorem wd57 {a0 : Array Value} {Z : State} (hw : ∀ d ∈ tables_1, d.before a0 Z = true) : (Jvm.Cond.methodLink "java/lang/String" (492 : Nat) ({ cls := "java/lang/String", name := "isLatin1", desc := "()Z" } : Jvm.MethodName)).before a0 Z = true := hw _ (List.mem_of_getElem? (i := 57) rfl)
theorem wd58 {a0 : Array Value} {Z : State} (hw : ∀ d ∈ tables_1, d.before a0 Z = true) : (Jvm.Cond.declares ({ cls := "java/lang/String", name := "isLatin1", desc := "()Z" } : Jvm.MethodName)).before a0 Z = true := hw _ (List.mem_of_getElem? (i := 58) rfl)
theorem wd59 {a0 : Array Value} {Z : State} (hw : ∀ d ∈ tables_1, d.before a0 Z = true) : (Jvm.Cond.instanceMethod ({ cls := "java/lang/String", name := "isLatin1", desc := "()Z" } : Jvm.MethodName)).before a0 Z = true := hw _ (List.mem_of_getElem? (i := 59) rfl)
theorem wd60 {a0 : Array Value} {Z : State} (hw : ∀ d ∈ tables_1, d.before a0 Z = true) : (Jvm.Cond.selects "java/lang/String" ({ cls := "java/lang/String", name := "isLatin1", desc := "()Z" } : Jvm.MethodName) ({ cls := "java/lang/String", name := "isLatin1", desc := "()Z" } : Jvm.MethodName)).before a0 Z = true := hw _ (List.mem_of_getElem? (i := 60) rfl)
theorem wd61 {a0 : Array Value} {Z : State} (hw : ∀ d ∈ tables_1, d.before a0 Z = true) : (Jvm.Cond.code ({ cls := "java/lang/String", name := "isLatin1", desc := "()Z" } : Jvm.MethodName) jdk_42_method_154_code (1 : Nat) (Option.some Jvm.ClassFile.FieldType.boolean)).before a0 Z = true := hw _ (List.mem_of_getElem? (i := 61) rfl)
theorem wd62 {a0 : Array Value} {Z : State} (hw : ∀ d ∈ tables_1, d.before a0 Z = true) : (Jvm.Cond.methodLink "java/lang/String" (505 : Nat) ({ cls := "java/lang/String", name := "length", desc := "()I" } : Jvm.MethodName)).before a0 Z = true := hw _ (List.mem_of_getElem? (i := 62) rfl)
theorem wd63 {a0 : Array Value} {Z : State} (hw : ∀ d ∈ tables_1, d.before a0 Z = true) : (Jvm.Cond.declares ({ cls := "java/lang/String", name := "length", desc := "()I" } : Jvm.MethodName)).before a0 Z = true := hw _ (List.mem_of_getElem? (i := 63) rfl)
theorem wd64 {a0 : Array Value} {Z : State} (hw : ∀ d ∈ tables_1, d.before a0 Z = true) : (Jvm.Cond.instanceMethod ({ cls := "java/lang/String", name := "length", desc := "()I" } : Jvm.MethodName)).before a0 Z = true := hw _ (List.mem_of_getElem? (i := 64) rfl)
theorem wd65 {a0 : Array Value} {Z : State} (hw : ∀ d ∈ tables_1, d.before a0 Z = true) : (Jvm.Cond.selects "java/lang/String" ({ cls := "java/lang/String", name := "length", desc := "()I" } : Jvm.MethodName) ({ cls := "java/lang/String", name := "length", desc := "()I" } : Jvm.MethodName)).before a0 Z = true := hw _ (List.mem_of_getElem? (i := 65) rfl)
theorem wd66 {a0 : Array Value} {Z : State} (hw : ∀ d ∈ tables_1, d.before a0 Z = true) : (Jvm.Cond.code ({ cls := "java/lang/String", name := "length", desc := "()I" } : Jvm.MethodName) jdk_42_method_54_code (1 : Nat) (Option.some Jvm.ClassFile.FieldType.int)).before a0 Z = true := hw _ (List.mem_of_getElem? (i := 66) rfl)
theorem wd67 {a0 : Array Value} {Z : State} (hw : ∀ d ∈ tables_1, d.before a0 Z = true) : (Jvm.Cond.methodLink "java/lang/String" (335 : Nat) ({ cls := "java/lang/String", name := "coder", desc := "()B" } : Jvm.MethodName)).before a0 Z = true := hw _ (List.mem_of_getElem? (i := 67) rfl)
theorem wd68 {a0 : Array Value} {Z : State} (hw : ∀ d ∈ tables_1, d.before a0 Z = true) : (Jvm.Cond.declares ({ cls := "java/lang/String", name := "coder", desc := "()B" } : Jvm.MethodName)).before a0 Z = true := hw _ (List.mem_of_getElem? (i := 68) rfl)
theorem wd69 {a0 : Array Value} {Z : State} (hw : ∀ d ∈ tables_1, d.before a0 Z = true) : (Jvm.Cond.instanceMethod ({ cls := "java/lang/String", name := "coder", desc := "()B" } : Jvm.MethodName)).before a0 Z = true := hw _ (List.mem_of_getElem? (i := 69) rfl)
theorem wd70 {a0 : Array Value} {Z : State} (hw : ∀ d ∈ tables_1, d.before a0 Z = true) : (Jvm.Cond.selects "java/lang/String" ({ cls := "java/lang/String", name := "coder", desc := "()B" } : Jvm.MethodName) ({ cls := "java/lang/String", name := "coder", desc := "()B" } : Jvm.MethodName)).before a0 Z = true := hw _ (List.mem_of_getElem? (i := 70) rfl)
theorem wd71 {a0 : Array Value} {Z : State} (hw : ∀ d ∈ tables_1, d.before a0 Z = true) : (Jvm.Cond.code ({ cls := "java/lang/String", name := "coder", desc := "()B" } : Jvm.MethodName) jdk_42_method_152_code (1 : Nat) (Option.some Jvm.ClassFile.FieldType.byte)).before a0 Z = true := hw _ (List.mem_of_getElem? (i := 71) rfl)
theorem wd72 {a0 : Array Value} {Z : State} (hw : ∀ d ∈ tables_1, d.before a0 Z = true) : (Jvm.Cond.methodLink "java/lang/String" (637 : Nat) ({ cls := "java/lang/StringLatin1", name := "indexOf", desc := "([BIII)I" } : Jvm.MethodName)).before a0 Z = true := hw _ (List.mem_of_getElem? (i := 72) rfl)
theorem wd73 {a0 : Array Value} {Z : State} (hw : ∀ d ∈ tables_1, d.before a0 Z = true) : (Jvm.Cond.static ({ cls := "java/lang/StringLatin1", name := "indexOf", desc := "([BIII)I" } : Jvm.MethodName)).before a0 Z = true := hw _ (List.mem_of_getElem? (i := 73) rfl)
theorem wd74 {a0 : Array Value} {Z : State} (hw : ∀ d ∈ tables_1, d.before a0 Z = true) : (Jvm.Cond.initialized "java/lang/StringLatin1").before a0 Z = true := hw _ (List.mem_of_getElem? (i := 74) rfl)
theorem wd75 {a0 : Array Value} {Z : State} (hw : ∀ d ∈ tables_1, d.before a0 Z = true) : (Jvm.Cond.code ({ cls := "java/lang/StringLatin1", name := "indexOf", desc := "([BIII)I" } : Jvm.MethodName) jdk_43_method_22_code (4 : Nat) (Option.some Jvm.ClassFile.FieldType.int)).before a0 Z = true := hw _ (List.mem_of_getElem? (i := 75) rfl)
theorem wd76 {a0 : Array Value} {Z : State} (hw : ∀ d ∈ tables_1, d.before a0 Z = true) : (Jvm.Cond.methodLink "java/lang/StringLatin1" (88 : Nat) ({ cls := "java/lang/StringLatin1", name := "canEncode", desc := "(I)Z" } : Jvm.MethodName)).before a0 Z = true := hw _ (List.mem_of_getElem? (i := 76) rfl)
theorem wd77 {a0 : Array Value} {Z : State} (hw : ∀ d ∈ tables_1, d.before a0 Z = true) : (Jvm.Cond.static ({ cls := "java/lang/StringLatin1", name := "canEncode", desc := "(I)Z" } : Jvm.MethodName)).before a0 Z = true := hw _ (List.mem_of_getElem? (i := 77) rfl)
theorem wd78 {a0 : Array Value} {Z : State} (hw : ∀ d ∈ tables_1, d.before a0 Z = true) : (Jvm.Cond.code ({ cls := "java/lang/StringLatin1", name := "canEncode", desc := "(I)Z" } : Jvm.MethodName) jdk_43_method_4_code (1 : Nat) (Option.some Jvm.ClassFile.FieldType.boolean)).before a0 Z = true := hw _ (List.mem_of_getElem? (i := 78) rfl)
theorem wd79 {a0 : Array Value} {Z : State} (hw : ∀ d ∈ tables_1, d.before a0 Z = true) : (Jvm.Cond.methodLink "java/lang/StringLatin1" (92 : Nat) ({ cls := "java/lang/Math", name := "max", desc := "(II)I" } : Jvm.MethodName)).before a0 Z = true := hw _ (List.mem_of_getElem? (i := 79) rfl)
theorem wd80 {a0 : Array Value} {Z : State} (hw : ∀ d ∈ tables_1, d.before a0 Z = true) : (Jvm.Cond.static ({ cls := "java/lang/Math", name := "max", desc := "(II)I" } : Jvm.MethodName)).before a0 Z = true := hw _ (List.mem_of_getElem? (i := 80) rfl)
theorem wd81 {a0 : Array Value} {Z : State} (hw : ∀ d ∈ tables_1, d.before a0 Z = true) : (Jvm.Cond.initialized "java/lang/Math").before a0 Z = true := hw _ (List.mem_of_getElem? (i := 81) rfl)
theorem wd82 {a0 : Array Value} {Z : State} (hw : ∀ d ∈ tables_1, d.before a0 Z = true) : (Jvm.Cond.code ({ cls := "java/lang/Math", name := "max", desc := "(II)I" } : Jvm.MethodName) jdk_29_method_65_code (2 : Nat) (Option.some Jvm.ClassFile.FieldType.int)).before a0 Z = true := hw _ (List.mem_of_getElem? (i := 82) rfl)
theorem wd83 {a0 : Array Value} {Z : State} (hw : ∀ d ∈ tables_1, d.before a0 Z = true) : (Jvm.Cond.methodLink "java/lang/StringLatin1" (38 : Nat) ({ cls := "java/lang/Math", name := "min", desc := "(II)I" } : Jvm.MethodName)).before a0 Z = true := hw _ (List.mem_of_getElem? (i := 83) rfl)
theorem wd84 {a0 : Array Value} {Z : State} (hw : ∀ d ∈ tables_1, d.before a0 Z = true) : (Jvm.Cond.static ({ cls := "java/lang/Math", name := "min", desc := "(II)I" } : Jvm.MethodName)).before a0 Z = true := hw _ (List.mem_of_getElem? (i := 84) rfl)
theorem wd85 {a0 : Array Value} {Z : State} (hw : ∀ d ∈ tables_1, d.before a0 Z = true) : (Jvm.Cond.code ({ cls := "java/lang/Math", name := "min", desc := "(II)I" } : Jvm.MethodName) jdk_29_method_69_code (2 : Nat) (Option.some Jvm.ClassFile.FieldType.int)).before a0 Z = true := hw _ (List.mem_of_getElem? (i := 85) rfl)
theorem wd86 {a0 : Array Value} {Z : State} (hw : ∀ d ∈ tables_1, d.before a0 Z = true) : (Jvm.Cond.methodLink "java/lang/StringLatin1" (95 : Nat) ({ cls := "java/lang/StringLatin1", name := "indexOfChar", desc := "([BIII)I" } : Jvm.MethodName)).before a0 Z = true := hw _ (List.mem_of_getElem? (i := 86) rfl)
theorem wd87 {a0 : Array Value} {Z : State} (hw : ∀ d ∈ tables_1, d.before a0 Z = true) : (Jvm.Cond.static ({ cls := "java/lang/StringLatin1", name := "indexOfChar", desc := "([BIII)I" } : Jvm.MethodName)).before a0 Z = true := hw _ (List.mem_of_getElem? (i := 87) rfl)
theorem wd88 {a0 : Array Value} {Z : State} (hw : ∀ d ∈ tables_1, d.before a0 Z = true) : (Jvm.Cond.code ({ cls := "java/lang/StringLatin1", name := "indexOfChar", desc := "([BIII)I" } : Jvm.MethodName) jdk_43_method_23_code (6 : Nat) (Option.some Jvm.ClassFile.FieldType.int)).before a0 Z = true := hw _ (List.mem_of_getElem? (i := 88) rfl)
theorem wd89 {a0 : Array Value} {Z : State} (hw : ∀ d ∈ tables_1, d.before a0 Z = true) : (Jvm.Cond.fieldLink "com/example/cubeset/cubeset/sql/SessionSettingMayChangeReadingOfPinLaw" (18 : Nat) "com/example/cubeset/cubeset/sql/SessionSetting" "NO_BACKSLASH_ESCAPES" "Lcom/example/cubeset/cubeset/sql/SessionSetting;").before a0 Z = true := hw _ (List.mem_of_getElem? (i := 89) rfl)
theorem wd90 {a0 : Array Value} {Z : State} (hw : ∀ d ∈ tables_1, d.before a0 Z = true) : (Jvm.Cond.laysStatic "com/example/cubeset/cubeset/sql/SessionSetting" "NO_BACKSLASH_ESCAPES" "Lcom/example/cubeset/cubeset/sql/SessionSetting;").before a0 Z = true := hw _ (List.mem_of_getElem? (i := 90) rfl)
theorem wd91 {a0 : Array Value} {Z : State} (hw : ∀ d ∈ tables_1, d.before a0 Z = true) : (Jvm.Cond.stringLink "java/lang/String" (7 : Nat) "").before a0 Z = true := hw _ (List.mem_of_getElem? (i := 91) rfl)
theorem d_jdk_42_method_154_code_0 : decode jdk_42_method_154_code 0 = .ok (.getstatic 38, 3) := by decide +kernel
theorem d_jdk_42_method_154_code_3 : decode jdk_42_method_154_code 3 = .ok (.ifCond .eq 14, 3) := by decide +kernel
theorem d_jdk_42_method_154_code_6 : decode jdk_42_method_154_code 6 = .ok (.aload_n 0, 1) := by decide +kernel
theorem d_jdk_42_method_154_code_7 : decode jdk_42_method_154_code 7 = .ok (.getfield 15, 3) := by decide +kernel
theorem d_jdk_42_method_154_code_10 : decode jdk_42_method_154_code 10 = .ok (.ifCond .ne 7, 3) := by decide +kernel
theorem d_jdk_42_method_154_code_13 : decode jdk_42_method_154_code 13 = .ok (.iconst 1, 1) := by decide +kernel
theorem d_jdk_42_method_154_code_14 : decode jdk_42_method_154_code 14 = .ok (.goto 4, 3) := by decide +kernel
theorem d_jdk_42_method_154_code_18 : decode jdk_42_method_154_code 18 = .ok (.ireturn, 1) := by decide +kernel
theorem d_jdk_42_method_152_code_0 : decode jdk_42_method_152_code 0 = .ok (.getstatic 38, 3) := by decide +kernel
theorem d_jdk_42_method_152_code_3 : decode jdk_42_method_152_code 3 = .ok (.ifCond .eq 10, 3) := by decide +kernel
theorem d_jdk_42_method_152_code_6 : decode jdk_42_method_152_code 6 = .ok (.aload_n 0, 1) := by decide +kernel
theorem d_jdk_42_method_152_code_7 : decode jdk_42_method_152_code 7 = .ok (.getfield 15, 3) := by decide +kernel
theorem d_jdk_42_method_152_code_10 : decode jdk_42_method_152_code 10 = .ok (.goto 4, 3) := by decide +kernel
theorem d_jdk_42_method_152_code_14 : decode jdk_42_method_152_code 14 = .ok (.ireturn, 1) := by decide +kernel
theorem d_jdk_42_method_54_code_0 : decode jdk_42_method_54_code 0 = .ok (.aload_n 0, 1) := by decide +kernel
theorem d_jdk_42_method_54_code_1 : decode jdk_42_method_54_code 1 = .ok (.getfield 9, 3) := by decide +kernel
theorem d_jdk_42_method_54_code_4 : decode jdk_42_method_54_code 4 = .ok (.arraylength, 1) := by decide +kernel
theorem d_jdk_42_method_54_code_5 : decode jdk_42_method_54_code 5 = .ok (.aload_n 0, 1) := by decide +kernel
theorem d_jdk_42_method_54_code_6 : decode jdk_42_method_54_code 6 = .ok (.invokevirtual 335, 3) := by decide +kernel
theorem d_jdk_42_method_54_code_9 : decode jdk_42_method_54_code 9 = .ok (.ishr, 1) := by decide +kernel
theorem d_jdk_42_method_54_code_10 : decode jdk_42_method_54_code 10 = .ok (.ireturn, 1) := by decide +kernel
theorem d_jdk_43_method_4_code_0 : decode jdk_43_method_4_code 0 = .ok (.iload_n 0, 1) := by decide +kernel
theorem d_jdk_43_method_4_code_1 : decode jdk_43_method_4_code 1 = .ok (.ifCond .lt 14, 3) := by decide +kernel
theorem d_jdk_43_method_4_code_4 : decode jdk_43_method_4_code 4 = .ok (.iload_n 0, 1) := by decide +kernel
theorem d_jdk_43_method_4_code_5 : decode jdk_43_method_4_code 5 = .ok (.sipush 255, 3) := by decide +kernel
theorem d_jdk_43_method_4_code_8 : decode jdk_43_method_4_code 8 = .ok (.if_icmp .gt 7, 3) := by decide +kernel
theorem d_jdk_43_method_4_code_11 : decode jdk_43_method_4_code 11 = .ok (.iconst 1, 1) := by decide +kernel
theorem d_jdk_43_method_4_code_12 : decode jdk_43_method_4_code 12 = .ok (.goto 4, 3) := by decide +kernel
theorem d_jdk_43_method_4_code_16 : decode jdk_43_method_4_code 16 = .ok (.ireturn, 1) := by decide +kernel
theorem d_jdk_29_method_65_code_0 : decode jdk_29_method_65_code 0 = .ok (.iload_n 0, 1) := by decide +kernel
theorem d_jdk_29_method_65_code_1 : decode jdk_29_method_65_code 1 = .ok (.iload_n 1, 1) := by decide +kernel
theorem d_jdk_29_method_65_code_2 : decode jdk_29_method_65_code 2 = .ok (.if_icmp .lt 7, 3) := by decide +kernel
theorem d_jdk_29_method_65_code_5 : decode jdk_29_method_65_code 5 = .ok (.iload_n 0, 1) := by decide +kernel
theorem d_jdk_29_method_65_code_6 : decode jdk_29_method_65_code 6 = .ok (.goto 4, 3) := by decide +kernel
theorem d_jdk_29_method_65_code_10 : decode jdk_29_method_65_code 10 = .ok (.ireturn, 1) := by decide +kernel
theorem d_jdk_29_method_69_code_0 : decode jdk_29_method_69_code 0 = .ok (.iload_n 0, 1) := by decide +kernel
theorem d_jdk_29_method_69_code_1 : decode jdk_29_method_69_code 1 = .ok (.iload_n 1, 1) := by decide +kernel
theorem d_jdk_29_method_69_code_2 : decode jdk_29_method_69_code 2 = .ok (.if_icmp .gt 7, 3) := by decide +kernel
theorem d_jdk_29_method_69_code_5 : decode jdk_29_method_69_code 5 = .ok (.iload_n 0, 1) := by decide +kernel
theorem d_jdk_29_method_69_code_6 : decode jdk_29_method_69_code 6 = .ok (.goto 4, 3) := by decide +kernel
theorem d_jdk_29_method_69_code_10 : decode jdk_29_method_69_code 10 = .ok (.ireturn, 1) := by decide +kernel
theorem d_jdk_43_method_23_code_0 : decode jdk_43_method_23_code 0 = .ok (.iload_n 1, 1) := by decide +kernel
theorem d_jdk_43_method_23_code_1 : decode jdk_43_method_23_code 1 = .ok (.i2b, 1) := by decide +kernel
theorem d_jdk_43_method_23_code_2 : decode jdk_43_method_23_code 2 = .ok (.istore 4, 2) := by decide +kernel
theorem d_jdk_43_method_23_code_4 : decode jdk_43_method_23_code 4 = .ok (.iload_n 2, 1) := by decide +kernel
theorem d_jdk_43_method_23_code_5 : decode jdk_43_method_23_code 5 = .ok (.istore 5, 2) := by decide +kernel
theorem d_jdk_43_method_23_code_7 : decode jdk_43_method_23_code 7 = .ok (.iload 5, 2) := by decide +kernel
theorem d_jdk_43_method_23_code_9 : decode jdk_43_method_23_code 9 = .ok (.iload_n 3, 1) := by decide +kernel
theorem d_jdk_43_method_23_code_10 : decode jdk_43_method_23_code 10 = .ok (.if_icmp .ge 21, 3) := by decide +kernel
theorem d_jdk_43_method_23_code_13 : decode jdk_43_method_23_code 13 = .ok (.aload_n 0, 1) := by decide +kernel
theorem d_jdk_43_method_23_code_14 : decode jdk_43_method_23_code 14 = .ok (.iload 5, 2) := by decide +kernel
theorem d_jdk_43_method_23_code_16 : decode jdk_43_method_23_code 16 = .ok (.baload, 1) := by decide +kernel
theorem d_jdk_43_method_23_code_17 : decode jdk_43_method_23_code 17 = .ok (.iload 4, 2) := by decide +kernel
theorem d_jdk_43_method_23_code_19 : decode jdk_43_method_23_code 19 = .ok (.if_icmp .ne 6, 3) := by decide +kernel
theorem d_jdk_43_method_23_code_22 : decode jdk_43_method_23_code 22 = .ok (.iload 5, 2) := by decide +kernel
theorem d_jdk_43_method_23_code_24 : decode jdk_43_method_23_code 24 = .ok (.ireturn, 1) := by decide +kernel
theorem d_jdk_43_method_23_code_25 : decode jdk_43_method_23_code 25 = .ok (.iinc 5 1, 3) := by decide +kernel
theorem d_jdk_43_method_23_code_28 : decode jdk_43_method_23_code 28 = .ok (.goto (-21), 3) := by decide +kernel
theorem d_jdk_43_method_23_code_31 : decode jdk_43_method_23_code 31 = .ok (.iconst (-1), 1) := by decide +kernel
theorem d_jdk_43_method_23_code_32 : decode jdk_43_method_23_code 32 = .ok (.ireturn, 1) := by decide +kernel
theorem d_jdk_43_method_22_code_0 : decode jdk_43_method_22_code 0 = .ok (.iload_n 1, 1) := by decide +kernel
theorem d_jdk_43_method_22_code_1 : decode jdk_43_method_22_code 1 = .ok (.invokestatic 88, 3) := by decide +kernel
theorem d_jdk_43_method_22_code_4 : decode jdk_43_method_22_code 4 = .ok (.ifCond .ne 5, 3) := by decide +kernel
theorem d_jdk_43_method_22_code_9 : decode jdk_43_method_22_code 9 = .ok (.iload_n 2, 1) := by decide +kernel
theorem d_jdk_43_method_22_code_10 : decode jdk_43_method_22_code 10 = .ok (.iconst 0, 1) := by decide +kernel
theorem d_jdk_43_method_22_code_11 : decode jdk_43_method_22_code 11 = .ok (.invokestatic 92, 3) := by decide +kernel
theorem d_jdk_43_method_22_code_14 : decode jdk_43_method_22_code 14 = .ok (.istore_n 2, 1) := by decide +kernel
theorem d_jdk_43_method_22_code_15 : decode jdk_43_method_22_code 15 = .ok (.iload_n 3, 1) := by decide +kernel
theorem d_jdk_43_method_22_code_16 : decode jdk_43_method_22_code 16 = .ok (.aload_n 0, 1) := by decide +kernel
theorem d_jdk_43_method_22_code_17 : decode jdk_43_method_22_code 17 = .ok (.arraylength, 1) := by decide +kernel
theorem d_jdk_43_method_22_code_18 : decode jdk_43_method_22_code 18 = .ok (.invokestatic 38, 3) := by decide +kernel
theorem d_jdk_43_method_22_code_21 : decode jdk_43_method_22_code 21 = .ok (.istore_n 3, 1) := by decide +kernel
theorem d_jdk_43_method_22_code_22 : decode jdk_43_method_22_code 22 = .ok (.iload_n 2, 1) := by decide +kernel
theorem d_jdk_43_method_22_code_23 : decode jdk_43_method_22_code 23 = .ok (.iload_n 3, 1) := by decide +kernel
theorem d_jdk_43_method_22_code_24 : decode jdk_43_method_22_code 24 = .ok (.if_icmp .lt 5, 3) := by decide +kernel
theorem d_jdk_43_method_22_code_27 : decode jdk_43_method_22_code 27 = .ok (.iconst (-1), 1) := by decide +kernel
theorem d_jdk_43_method_22_code_28 : decode jdk_43_method_22_code 28 = .ok (.ireturn, 1) := by decide +kernel
theorem d_jdk_43_method_22_code_29 : decode jdk_43_method_22_code 29 = .ok (.aload_n 0, 1) := by decide +kernel
theorem d_jdk_43_method_22_code_30 : decode jdk_43_method_22_code 30 = .ok (.iload_n 1, 1) := by decide +kernel
theorem d_jdk_43_method_22_code_31 : decode jdk_43_method_22_code 31 = .ok (.iload_n 2, 1) := by decide +kernel
theorem d_jdk_43_method_22_code_32 : decode jdk_43_method_22_code 32 = .ok (.iload_n 3, 1) := by decide +kernel
theorem d_jdk_43_method_22_code_33 : decode jdk_43_method_22_code 33 = .ok (.invokestatic 95, 3) := by decide +kernel
theorem d_jdk_43_method_22_code_36 : decode jdk_43_method_22_code 36 = .ok (.ireturn, 1) := by decide +kernel
theorem d_jdk_42_method_80_code_0 : decode jdk_42_method_80_code 0 = .ok (.aload_n 0, 1) := by decide +kernel
theorem d_jdk_42_method_80_code_1 : decode jdk_42_method_80_code 1 = .ok (.invokevirtual 492, 3) := by decide +kernel
theorem d_jdk_42_method_80_code_4 : decode jdk_42_method_80_code 4 = .ok (.ifCond .eq 19, 3) := by decide +kernel
theorem d_jdk_42_method_80_code_7 : decode jdk_42_method_80_code 7 = .ok (.aload_n 0, 1) := by decide +kernel
theorem d_jdk_42_method_80_code_8 : decode jdk_42_method_80_code 8 = .ok (.getfield 9, 3) := by decide +kernel
theorem d_jdk_42_method_80_code_11 : decode jdk_42_method_80_code 11 = .ok (.iload_n 1, 1) := by decide +kernel
theorem d_jdk_42_method_80_code_12 : decode jdk_42_method_80_code 12 = .ok (.iload_n 2, 1) := by decide +kernel
theorem d_jdk_42_method_80_code_13 : decode jdk_42_method_80_code 13 = .ok (.aload_n 0, 1) := by decide +kernel
theorem d_jdk_42_method_80_code_14 : decode jdk_42_method_80_code 14 = .ok (.invokevirtual 505, 3) := by decide +kernel
theorem d_jdk_42_method_80_code_17 : decode jdk_42_method_80_code 17 = .ok (.invokestatic 637, 3) := by decide +kernel
theorem d_jdk_42_method_80_code_20 : decode jdk_42_method_80_code 20 = .ok (.goto 16, 3) := by decide +kernel
theorem d_jdk_42_method_80_code_36 : decode jdk_42_method_80_code 36 = .ok (.ireturn, 1) := by decide +kernel
theorem d_jdk_42_method_79_code_0 : decode jdk_42_method_79_code 0 = .ok (.aload_n 0, 1) := by decide +kernel
theorem d_jdk_42_method_79_code_1 : decode jdk_42_method_79_code 1 = .ok (.iload_n 1, 1) := by decide +kernel
theorem d_jdk_42_method_79_code_2 : decode jdk_42_method_79_code 2 = .ok (.iconst 0, 1) := by decide +kernel
theorem d_jdk_42_method_79_code_3 : decode jdk_42_method_79_code 3 = .ok (.invokevirtual 633, 3) := by decide +kernel
theorem d_jdk_42_method_79_code_6 : decode jdk_42_method_79_code 6 = .ok (.ireturn, 1) := by decide +kernel
theorem d_prog_62_method_5_code_0 : decode prog_62_method_5_code 0 = .ok (.aload_n 1, 1) := by decide +kernel
theorem d_prog_62_method_5_code_1 : decode prog_62_method_5_code 1 = .ok (.aload_n 0, 1) := by decide +kernel
theorem d_prog_62_method_5_code_2 : decode prog_62_method_5_code 2 = .ok (.getfield 33, 3) := by decide +kernel
theorem d_prog_62_method_5_code_5 : decode prog_62_method_5_code 5 = .ok (.invokevirtual 37, 3) := by decide +kernel
theorem d_prog_62_method_5_code_8 : decode prog_62_method_5_code 8 = .ok (.ifCond .lt 7, 3) := by decide +kernel
theorem d_prog_62_method_5_code_11 : decode prog_62_method_5_code 11 = .ok (.iconst 1, 1) := by decide +kernel
theorem d_prog_62_method_5_code_12 : decode prog_62_method_5_code 12 = .ok (.goto 4, 3) := by decide +kernel
theorem d_prog_62_method_5_code_15 : decode prog_62_method_5_code 15 = .ok (.iconst 0, 1) := by decide +kernel
theorem d_prog_62_method_5_code_16 : decode prog_62_method_5_code 16 = .ok (.ireturn, 1) := by decide +kernel
theorem d_method_2_code_0 : decode method_2_code 0 = .ok (.iload_n 0, 1) := by decide +kernel
theorem d_method_2_code_1 : decode method_2_code 1 = .ok (.iconst 3, 1) := by decide +kernel
theorem d_method_2_code_2 : decode method_2_code 2 = .ok (.iand, 1) := by decide +kernel
theorem d_method_2_code_3 : decode method_2_code 3 = .ok (.istore_n 1, 1) := by decide +kernel
theorem d_method_2_code_4 : decode method_2_code 4 = .ok (.iload_n 1, 1) := by decide +kernel
theorem d_method_2_code_5 : decode method_2_code 5 = .ok (.ifCond .ne 6, 3) := by decide +kernel
theorem d_method_2_code_8 : decode method_2_code 8 = .ok (.bipush 34, 2) := by decide +kernel
theorem d_method_2_code_10 : decode method_2_code 10 = .ok (.ireturn, 1) := by decide +kernel
theorem d_method_2_code_11 : decode method_2_code 11 = .ok (.iload_n 1, 1) := by decide +kernel
theorem d_method_2_code_12 : decode method_2_code 12 = .ok (.iconst 1, 1) := by decide +kernel
theorem d_method_2_code_13 : decode method_2_code 13 = .ok (.if_icmp .ne 6, 3) := by decide +kernel
theorem d_method_2_code_16 : decode method_2_code 16 = .ok (.bipush 92, 2) := by decide +kernel
theorem d_method_2_code_18 : decode method_2_code 18 = .ok (.ireturn, 1) := by decide +kernel
theorem d_method_2_code_19 : decode method_2_code 19 = .ok (.iload_n 0, 1) := by decide +kernel
theorem d_method_2_code_20 : decode method_2_code 20 = .ok (.iconst 2, 1) := by decide +kernel
theorem d_method_2_code_21 : decode method_2_code 21 = .ok (.iushr, 1) := by decide +kernel
theorem d_method_2_code_22 : decode method_2_code 22 = .ok (.sipush 255, 3) := by decide +kernel
theorem d_method_2_code_25 : decode method_2_code 25 = .ok (.iand, 1) := by decide +kernel
theorem d_method_2_code_26 : decode method_2_code 26 = .ok (.i2c, 1) := by decide +kernel
theorem d_method_2_code_27 : decode method_2_code 27 = .ok (.ireturn, 1) := by decide +kernel
theorem d_jdk_42_method_149_code_0 : decode jdk_42_method_149_code 0 = .ok (.aload_n 0, 1) := by decide +kernel
theorem d_jdk_42_method_149_code_1 : decode jdk_42_method_149_code 1 = .ok (.invokespecial 1, 3) := by decide +kernel
theorem d_jdk_42_method_149_code_4 : decode jdk_42_method_149_code 4 = .ok (.iload_n 3, 1) := by decide +kernel
theorem d_jdk_42_method_149_code_5 : decode jdk_42_method_149_code 5 = .ok (.ifCond .ne 22, 3) := by decide +kernel
theorem d_jdk_42_method_149_code_8 : decode jdk_42_method_149_code 8 = .ok (.aload_n 0, 1) := by decide +kernel
theorem d_jdk_42_method_149_code_9 : decode jdk_42_method_149_code 9 = .ok (.ldc 7, 2) := by decide +kernel
theorem d_jdk_42_method_149_code_11 : decode jdk_42_method_149_code 11 = .ok (.getfield 9, 3) := by decide +kernel
theorem d_jdk_42_method_149_code_14 : decode jdk_42_method_149_code 14 = .ok (.putfield 9, 3) := by decide +kernel
theorem d_jdk_42_method_149_code_17 : decode jdk_42_method_149_code 17 = .ok (.aload_n 0, 1) := by decide +kernel
theorem d_jdk_42_method_149_code_18 : decode jdk_42_method_149_code 18 = .ok (.ldc 7, 2) := by decide +kernel
theorem d_jdk_42_method_149_code_20 : decode jdk_42_method_149_code 20 = .ok (.getfield 15, 3) := by decide +kernel
theorem d_jdk_42_method_149_code_23 : decode jdk_42_method_149_code 23 = .ok (.putfield 15, 3) := by decide +kernel
theorem d_jdk_42_method_149_code_26 : decode jdk_42_method_149_code 26 = .ok (.return_, 1) := by decide +kernel
theorem d_jdk_42_method_3_code_0 : decode jdk_42_method_3_code 0 = .ok (.aload_n 0, 1) := by decide +kernel
theorem d_jdk_42_method_3_code_1 : decode jdk_42_method_3_code 1 = .ok (.aload_n 1, 1) := by decide +kernel
theorem d_jdk_42_method_3_code_2 : decode jdk_42_method_3_code 2 = .ok (.iconst 0, 1) := by decide +kernel
theorem d_jdk_42_method_3_code_3 : decode jdk_42_method_3_code 3 = .ok (.aload_n 1, 1) := by decide +kernel
theorem d_jdk_42_method_3_code_4 : decode jdk_42_method_3_code 4 = .ok (.arraylength, 1) := by decide +kernel
theorem d_jdk_42_method_3_code_5 : decode jdk_42_method_3_code 5 = .ok (.aconst_null, 1) := by decide +kernel
theorem d_jdk_42_method_3_code_6 : decode jdk_42_method_3_code 6 = .ok (.invokespecial 27, 3) := by decide +kernel
theorem d_jdk_42_method_3_code_9 : decode jdk_42_method_3_code 9 = .ok (.return_, 1) := by decide +kernel
theorem d_method_3_code_0 : decode method_3_code 0 = .ok (.iload_n 0, 1) := by decide +kernel
theorem d_method_3_code_1 : decode method_3_code 1 = .ok (.ifCond .ne 14, 3) := by decide +kernel
theorem d_method_3_code_4 : decode method_3_code 4 = .ok (.new 7, 3) := by decide +kernel
theorem d_method_3_code_7 : decode method_3_code 7 = .ok (.dup, 1) := by decide +kernel
theorem d_method_3_code_8 : decode method_3_code 8 = .ok (.iconst 0, 1) := by decide +kernel
theorem d_method_3_code_9 : decode method_3_code 9 = .ok (.newarray .char, 2) := by decide +kernel
theorem d_method_3_code_11 : decode method_3_code 11 = .ok (.invokespecial 9, 3) := by decide +kernel
theorem d_method_3_code_14 : decode method_3_code 14 = .ok (.areturn, 1) := by decide +kernel
theorem d_method_3_code_15 : decode method_3_code 15 = .ok (.iload_n 0, 1) := by decide +kernel
theorem d_method_3_code_16 : decode method_3_code 16 = .ok (.iconst 1, 1) := by decide +kernel
theorem d_method_3_code_17 : decode method_3_code 17 = .ok (.if_icmp .ne 18, 3) := by decide +kernel
theorem d_method_3_code_20 : decode method_3_code 20 = .ok (.new 7, 3) := by decide +kernel
theorem d_method_3_code_23 : decode method_3_code 23 = .ok (.dup, 1) := by decide +kernel
theorem d_method_3_code_24 : decode method_3_code 24 = .ok (.iconst 1, 1) := by decide +kernel
theorem d_method_3_code_25 : decode method_3_code 25 = .ok (.newarray .char, 2) := by decide +kernel
theorem d_method_3_code_27 : decode method_3_code 27 = .ok (.dup, 1) := by decide +kernel
theorem d_method_3_code_28 : decode method_3_code 28 = .ok (.iconst 0, 1) := by decide +kernel
theorem d_method_3_code_29 : decode method_3_code 29 = .ok (.iload_n 1, 1) := by decide +kernel
theorem d_method_3_code_30 : decode method_3_code 30 = .ok (.castore, 1) := by decide +kernel
theorem d_method_3_code_31 : decode method_3_code 31 = .ok (.invokespecial 9, 3) := by decide +kernel
theorem d_method_3_code_34 : decode method_3_code 34 = .ok (.areturn, 1) := by decide +kernel
theorem d_method_3_code_35 : decode method_3_code 35 = .ok (.iload_n 0, 1) := by decide +kernel
theorem d_method_3_code_36 : decode method_3_code 36 = .ok (.iconst 2, 1) := by decide +kernel
theorem d_method_3_code_37 : decode method_3_code 37 = .ok (.if_icmp .ne 22, 3) := by decide +kernel
theorem d_method_3_code_40 : decode method_3_code 40 = .ok (.new 7, 3) := by decide +kernel
theorem d_method_3_code_43 : decode method_3_code 43 = .ok (.dup, 1) := by decide +kernel
theorem d_method_3_code_44 : decode method_3_code 44 = .ok (.iconst 2, 1) := by decide +kernel
theorem d_method_3_code_45 : decode method_3_code 45 = .ok (.newarray .char, 2) := by decide +kernel
theorem d_method_3_code_47 : decode method_3_code 47 = .ok (.dup, 1) := by decide +kernel
theorem d_method_3_code_48 : decode method_3_code 48 = .ok (.iconst 0, 1) := by decide +kernel
theorem d_method_3_code_49 : decode method_3_code 49 = .ok (.iload_n 1, 1) := by decide +kernel
theorem d_method_3_code_50 : decode method_3_code 50 = .ok (.castore, 1) := by decide +kernel
theorem d_method_3_code_51 : decode method_3_code 51 = .ok (.dup, 1) := by decide +kernel
theorem d_method_3_code_52 : decode method_3_code 52 = .ok (.iconst 1, 1) := by decide +kernel
theorem d_method_3_code_53 : decode method_3_code 53 = .ok (.iload_n 2, 1) := by decide +kernel
theorem d_method_3_code_54 : decode method_3_code 54 = .ok (.castore, 1) := by decide +kernel
theorem d_method_3_code_55 : decode method_3_code 55 = .ok (.invokespecial 9, 3) := by decide +kernel
theorem d_method_3_code_58 : decode method_3_code 58 = .ok (.areturn, 1) := by decide +kernel
theorem d_method_3_code_59 : decode method_3_code 59 = .ok (.new 7, 3) := by decide +kernel
theorem d_method_3_code_62 : decode method_3_code 62 = .ok (.dup, 1) := by decide +kernel
theorem d_method_3_code_63 : decode method_3_code 63 = .ok (.iconst 3, 1) := by decide +kernel
theorem d_method_3_code_64 : decode method_3_code 64 = .ok (.newarray .char, 2) := by decide +kernel
theorem d_method_3_code_66 : decode method_3_code 66 = .ok (.dup, 1) := by decide +kernel
theorem d_method_3_code_67 : decode method_3_code 67 = .ok (.iconst 0, 1) := by decide +kernel
theorem d_method_3_code_68 : decode method_3_code 68 = .ok (.iload_n 1, 1) := by decide +kernel
theorem d_method_3_code_69 : decode method_3_code 69 = .ok (.castore, 1) := by decide +kernel
theorem d_method_3_code_70 : decode method_3_code 70 = .ok (.dup, 1) := by decide +kernel
theorem d_method_3_code_71 : decode method_3_code 71 = .ok (.iconst 1, 1) := by decide +kernel
theorem d_method_3_code_72 : decode method_3_code 72 = .ok (.iload_n 2, 1) := by decide +kernel
theorem d_method_3_code_73 : decode method_3_code 73 = .ok (.castore, 1) := by decide +kernel
theorem d_method_3_code_74 : decode method_3_code 74 = .ok (.dup, 1) := by decide +kernel
theorem d_method_3_code_75 : decode method_3_code 75 = .ok (.iconst 2, 1) := by decide +kernel
theorem d_method_3_code_76 : decode method_3_code 76 = .ok (.iload_n 3, 1) := by decide +kernel
theorem d_method_3_code_77 : decode method_3_code 77 = .ok (.castore, 1) := by decide +kernel
theorem d_method_3_code_78 : decode method_3_code 78 = .ok (.invokespecial 9, 3) := by decide +kernel
theorem d_method_3_code_81 : decode method_3_code 81 = .ok (.areturn, 1) := by decide +kernel
theorem pn0 : plainName "java/lang/String" = true := by first | (simp [plainName, overriddenIn]; done) | decide +kernel
theorem pn1 : plainName "java/lang/StringLatin1" = true := by first | (simp [plainName, overriddenIn]; done) | decide +kernel
theorem pn2 : plainName "com/example/cubeset/cubeset/sql/SessionSetting" = true := by first | (simp [plainName, overriddenIn]; done) | decide +kernel
theorem pn3 : plainName "com/example/cubeset/cubeset/sql/SessionSettingMayChangeReadingOfPinLaw" = true := by first | (simp [plainName, overriddenIn]; done) | decide +kernel
theorem pd0 : parseMethodDescriptor "()B" = some ⟨[], some .byte⟩ := by decide +kernel
theorem pd1 : parseMethodDescriptor "(I)Z" = some ⟨[.int], some .boolean⟩ := by decide +kernel
theorem pd2 : parseMethodDescriptor "(II)I" = some ⟨[.int, .int], some .int⟩ := by decide +kernel
theorem pd3 : parseMethodDescriptor "([BIII)I" = some ⟨[(.array .byte), .int, .int, .int], some .int⟩ := by decide +kernel
theorem pd4 : parseMethodDescriptor "()Z" = some ⟨[], some .boolean⟩ := by decide +kernel
theorem pd5 : parseMethodDescriptor "()I" = some ⟨[], some .int⟩ := by decide +kernel
theorem pd6 : parseMethodDescriptor "(I)I" = some ⟨[.int], some .int⟩ := by decide +kernel
theorem pd7 : parseMethodDescriptor "([CIILjava/lang/Void;)V" = some ⟨[(.array .char), .int, .int, (.object "java/lang/Void")], none⟩ := by decide +kernel
theorem pd8 : parseMethodDescriptor "([C)V" = some ⟨[(.array .char)], none⟩ := by decide +kernel
theorem pd9 : parseMethodDescriptor "(I)C" = some ⟨[.int], some .char⟩ := by decide +kernel
theorem pd10 : parseMethodDescriptor "(ICCC)Ljava/lang/String;" = some ⟨[.int, .char, .char, .char], some (.object "java/lang/String")⟩ := by decide +kernel
theorem pd11 : parseMethodDescriptor "(Ljava/lang/String;)Z" = some ⟨[(.object "java/lang/String")], some .boolean⟩ := by decide +kernel
/-- new String(char[]) of one to 4,000 chars, none above 255: who pays it -/
theorem own_newStr {Z : State} {a0 : Array Value} (hws : ∀ d ∈ StrChars.Road.words, d.before a0 Z = true) {kI : Nat} (wi : (Jvm.Cond.instantiable "java/lang/String" kI).before a0 Z = true) {R : Room} {h : Heap} {Ts : TsT} {Li : LiT} {x b : Addr} {Wd : Nat} {k : ClassId} {zn z : Int32} {cs : List Int32} {dv v0 c0 : Value}
    (E : Exa Z h x "java/lang/String") (V : Fld Z h x "java/lang/String" "value" "[B" v0) (C : Fld Z h x "java/lang/String" "coder" "B" c0) (K : Arv Z h b k .char zn (cs.map Value.int) dv) (S : Sta Z Z.heap "java/lang/String" "COMPACT_STRINGS" "Z" (.int z)) (hz : ¬ z = 0) (hlen : zn.toNatClampNeg = cs.length) (l0 : 0 < cs.length) (hbig : cs.length ≤ 536870912) (hall : ∀ c ∈ cs, ¬ 255 < c)
    (hfr : 4 ≤ R.frames) (hlo : Wd + 65 ≤ R.locals) (gz : Z.heap.size ≤ x) (E0 : Ext Z.heap h) :
    Pay Z (⟨"java/lang/String", "<init>", "([C)V"⟩ : MethodName) R 3 Wd [.ref x, .ref b] h Ts Li 1 cs.length (fun y => y.base = x)
      (fun v h' Ts' Li' => (v = none ∧ Ts' = Ts ∧ Li' = Li) ∧ ∃ t, h.size ≤ t ∧ Exa Z h' x "java/lang/String" ∧ Fld Z h' x "java/lang/String" "value" "[B" (.ref t) ∧ Fld Z h' x "java/lang/String" "coder" "B" (.int 0) ∧ (∃ kb, Arv Z h' t kb .byte zn (cs.map fun c => .int c.toInt8.toInt32) (.int 0)) ∧
        ∀ (O n d : String) (w : Value), Fld Z h x O n d w → Jvm.RoadKit.slotOf Z O n d ≠ Jvm.RoadKit.slotOf Z "java/lang/String" "value" "[B" → Jvm.RoadKit.slotOf Z O n d ≠ Jvm.RoadKit.slotOf Z "java/lang/String" "coder" "B" → Fld Z h' x O n d w) := by
  refine Pay.mono (Pay.of_back (P := StrChars.Road.QA Z x zn cs h) (fun l p e below s args hZ => StrChars.Road.backArv hZ hws wi E V C K (S.ext E0) hz hlen l0 hbig hall hfr hlo) (fun v h' L q => ⟨fun y hy => by rw [q.2.1 y hy]; exact gz, fun y hy => Or.inr (q.2.1 y hy), ?_⟩)) (fun v h' Ts' Li' K q => ?_)
  · obtain ⟨-, -, q, -⟩ := q
    refine ⟨q.1, fun a c hc => ?_⟩
    by_cases e : a = x
    · obtain ⟨c', r1, r2, r3, r4⟩ := q.2.2 a c hc
      exact ⟨c', r1, r2, r3, r4, fun i hi => absurd e hi⟩
    · exact ⟨c, q.2.1 a c hc (ninS e nin0), rfl, rfl, rfl, fun _ _ => rfl⟩
  · obtain ⟨⟨L, q1, -, -, -, q5, q6, q7, ⟨kb, -, q8⟩, q9⟩, e1, e2⟩ := q
    exact ⟨⟨q1, e1, e2⟩, h.size, Nat.le_refl _, q5, q6, q7, ⟨kb, q8⟩, q9⟩

def own_pk (p : Int32) : Int32 := if (p &&& 3) = 0 then 34 else if (p &&& 3) = 1 then 92 else nar .char (XT.ushr p 2 &&& 255).toUInt32.toUInt16.toUInt32.toInt32
theorem own_c255 (x : Int32) : ¬ nar .char ((x &&& (255 : Int32)).toUInt32.toUInt16.toUInt32.toInt32) < 0 ∧ ¬ (255 : Int32) < nar .char ((x &&& (255 : Int32)).toUInt32.toUInt16.toUInt32.toInt32) := by
  have t : ∀ k : Fin 256, ¬ nar .char ((Int32.ofNat k.val).toUInt32.toUInt16.toUInt32.toInt32) < 0 ∧ ¬ (255 : Int32) < nar .char ((Int32.ofNat k.val).toUInt32.toUInt16.toUInt32.toInt32) := by decide +kernel
  have h : (x &&& 255).toBitVec.toNat < 256 := by
    simp only [Int32.toBitVec_and, BitVec.toNat_and]
    exact Nat.lt_succ_of_le Nat.and_le_right
  have e : (x &&& 255) = Int32.ofNat (x &&& 255).toBitVec.toNat := by
    apply Int32.toBitVec_inj.mp
    show _ = BitVec.ofNat 32 _
    rw [BitVec.ofNat_toNat]; simp
  rw [e]
  exact t ⟨_, h⟩
theorem own_pk_rng (p : Int32) : ¬ own_pk p < 0 ∧ ¬ (255 : Int32) < own_pk p := by
  unfold own_pk
  split
  · decide
  · split
    · decide
    · exact own_c255 _
theorem own_nar_rng {x : Int32} (h : ¬ x < 0 ∧ ¬ (255 : Int32) < x) : nar .char x = x := by
  have t : ∀ k : Fin 256, nar .char (Int32.ofNat k.val) = Int32.ofNat k.val := by decide +kernel
  rw [Int32.lt_iff_toInt_lt, Int32.lt_iff_toInt_lt] at h
  have e1 : (0 : Int32).toInt = 0 := rfl
  have e2 : (255 : Int32).toInt = 255 := rfl
  have hk : x = Int32.ofNat x.toInt.toNat := Int32.toInt_inj.mp (by rw [n32_toInt (by omega)]; omega)
  have q := t ⟨x.toInt.toNat, by omega⟩
  rw [hk]; exact q
theorem own_lo8 {x y : Int32} (hx : ¬ x < 0 ∧ ¬ (255 : Int32) < x) (hy : ¬ y < 0 ∧ ¬ (255 : Int32) < y) (e : x.toInt8.toInt32 = y.toInt8.toInt32) : x = y := by
  have a := StrChars.lo8_mask hx.1 hx.2
  have b := StrChars.lo8_mask hy.1 hy.2
  rw [← a, ← b]; show x.toInt8.toInt32 &&& 255 = y.toInt8.toInt32 &&& 255; rw [e]
theorem own_and3 (p : Int32) : p &&& 3 = 0 ∨ p &&& 3 = 1 ∨ p &&& 3 = 2 ∨ p &&& 3 = 3 := by
  have t : ∀ k : Fin 4, Int32.ofNat k.val = 0 ∨ Int32.ofNat k.val = 1 ∨ Int32.ofNat k.val = 2 ∨ Int32.ofNat k.val = 3 := by decide
  have h : (p &&& 3).toBitVec.toNat < 4 := by
    simp only [Int32.toBitVec_and, BitVec.toNat_and]
    exact Nat.lt_succ_of_le Nat.and_le_right
  have e : (p &&& 3) = Int32.ofNat (p &&& 3).toBitVec.toNat := by
    apply Int32.toBitVec_inj.mp
    show _ = BitVec.ofNat 32 _
    rw [BitVec.ofNat_toNat]; simp
  rw [e]
  exact t ⟨_, h⟩
set_option maxRecDepth 65536 in
set_option maxHeartbeats 40000000 in
theorem c_isLatin1 {Z : State} {a0 : Array Value} (hw : ∀ d ∈ tables_1, d.before a0 Z = true) {h : Heap} {Ts : TsT} {Li : LiT} (x : Addr) (z : Int32) (hz : ¬ z = 0) (O2 : Sta Z Z.heap "java/lang/String" "COMPACT_STRINGS" "Z" (.int z)) (E1 : Exa Z h x "java/lang/String") (F1 : Fld Z h x "java/lang/String" "coder" "B" (.int 0)) :
    Con Z (⟨"java/lang/String", "isLatin1", "()Z"⟩ : MethodName) jdk_42_method_154_code 1 (some .boolean) ({ frames := 0, cells := 0, slots := 0, locals := 0 } : Room) [(.ref x)] h Ts Li (noW) (Pu (some (.int 1)) h Ts Li) := by
  refine Con.of (ws := Fw h noW) (Ls := #[.val (.ref x)]) (plainFor_of_name pn0) (fun m => by first | rfl | (simp [entryFrame, mkF, argsToLocals, Value.category]; done)) (fun E0 => ?_)
  refine Walk.getS (pc' := 3) (wd24 hw) Via.refl O2 d_jdk_42_method_154_code_0 ?_
  refine Walk.ifNo (pc' := 6) d_jdk_42_method_154_code_3 (XT.i0_eq_f hz) ?_
  refine Walk.aloadN (pc' := 7) d_jdk_42_method_154_code_6 rfl rfl ?_
  refine Walk.getF (pc' := 10) (host := "") (Or.inl (wd36 hw)) Via.refl F1 d_jdk_42_method_154_code_7 ?_
  refine Walk.ifNo (pc' := 13) d_jdk_42_method_154_code_10 (XT.i0_ne_f rfl) ?_
  refine Walk.iconst (pc' := 14) (1 : Int32) d_jdk_42_method_154_code_13 rfl ?_
  refine Walk.goto (pc' := 18) d_jdk_42_method_154_code_14 ?_
  exact Walk.nret d_jdk_42_method_154_code_18 rfl (by simp) ⟨rfl, rfl, rfl, rfl⟩ (fun _ q => q) (Nat.le_of_ble_eq_true rfl) (Nat.le_of_ble_eq_true rfl)
set_option maxRecDepth 65536 in
set_option maxHeartbeats 40000000 in
theorem c_strCoder {Z : State} {a0 : Array Value} (hw : ∀ d ∈ tables_1, d.before a0 Z = true) {h : Heap} {Ts : TsT} {Li : LiT} (x : Addr) (z : Int32) (hz : ¬ z = 0) (O2 : Sta Z Z.heap "java/lang/String" "COMPACT_STRINGS" "Z" (.int z)) (E1 : Exa Z h x "java/lang/String") (F1 : Fld Z h x "java/lang/String" "coder" "B" (.int 0)) :
    Con Z (⟨"java/lang/String", "coder", "()B"⟩ : MethodName) jdk_42_method_152_code 1 (some .byte) ({ frames := 0, cells := 0, slots := 0, locals := 0 } : Room) [(.ref x)] h Ts Li (noW) (Pu (some (.int 0)) h Ts Li) := by
  refine Con.of (ws := Fw h noW) (Ls := #[.val (.ref x)]) (plainFor_of_name pn0) (fun m => by first | rfl | (simp [entryFrame, mkF, argsToLocals, Value.category]; done)) (fun E0 => ?_)
  refine Walk.getS (pc' := 3) (wd24 hw) Via.refl O2 d_jdk_42_method_152_code_0 ?_
  refine Walk.ifNo (pc' := 6) d_jdk_42_method_152_code_3 (XT.i0_eq_f hz) ?_
  refine Walk.aloadN (pc' := 7) d_jdk_42_method_152_code_6 rfl rfl ?_
  refine Walk.getF (pc' := 10) (host := "") (Or.inl (wd36 hw)) Via.refl F1 d_jdk_42_method_152_code_7 ?_
  refine Walk.goto (pc' := 14) d_jdk_42_method_152_code_10 ?_
  exact Walk.nret d_jdk_42_method_152_code_14 rfl (by simp) ⟨rfl, rfl, rfl, rfl⟩ (fun _ q => q) (Nat.le_of_ble_eq_true rfl) (Nat.le_of_ble_eq_true rfl)
set_option maxRecDepth 65536 in
set_option maxHeartbeats 40000000 in
theorem c_len {Z : State} {a0 : Array Value} (hw : ∀ d ∈ tables_1, d.before a0 Z = true) {h : Heap} {Ts : TsT} {Li : LiT} (x t : Addr) (bs : Nat → Int32) (n : Nat) (hn : n < 2147483648) (z : Int32) (hz : ¬ z = 0) (O2 : Sta Z Z.heap "java/lang/String" "COMPACT_STRINGS" "Z" (.int z)) (E1 : Exa Z h x "java/lang/String") (F1 : Fld Z h x "java/lang/String" "coder" "B" (.int 0)) (F2 : Fld Z h x "java/lang/String" "value" "[B" (.ref t)) (A1 : Av Z h t .byte n (fun i => .int (bs i))) :
    Con Z (⟨"java/lang/String", "length", "()I"⟩ : MethodName) jdk_42_method_54_code 1 (some .int) ({ frames := 1, cells := 0, slots := 0, locals := 13 } : Room) [(.ref x)] h Ts Li (noW) (Pu (some (.int (Int32.ofNat n))) h Ts Li) := by
  refine Con.of (ws := Fw h noW) (Ls := #[.val (.ref x)]) (plainFor_of_name pn0) (fun m => by first | rfl | (simp [entryFrame, mkF, argsToLocals, Value.category]; done)) (fun E0 => ?_)
  refine Walk.aloadN (pc' := 1) d_jdk_42_method_54_code_0 rfl rfl ?_
  refine Walk.getF (pc' := 4) (host := "") (Or.inl (wd38 hw)) Via.refl F2 d_jdk_42_method_54_code_1 ?_
  refine Walk.alen (pc' := 5) (z := (Int32.ofNat n)) A1 d_jdk_42_method_54_code_4 rfl ?_
  refine Walk.aloadN (pc' := 6) d_jdk_42_method_54_code_5 rfl rfl ?_
  refine Walk.callV (pc' := 9) (a := x) (Wd := 1) (as := []) (rest := [(.int (Int32.ofNat n))]) (wd67 hw) (wd68 hw) (wd70 hw) (wd70 hw) (wd69 hw) E1 ((c_strCoder hw x z hz O2 E1 F1).pay (wd71 hw) (wd12 hw) (by decide) (by decide)) (hlen := lenOf pd0 rfl) (hd := d_jdk_42_method_54_code_6) (hst := rfl) (hW := Nat.le_of_eq rfl) (hsz := rfl) (hc1 := Nat.le_of_ble_eq_true rfl) (hl1 := Nat.le_of_ble_eq_true rfl) (hv := Fw.upN) (kk := fun v1 h5 Ts2 Li3 q4 K6 => ?_)
  obtain ⟨rfl, rfl, rfl, rfl⟩ := q4
  show Walk _ _ _ _ _ _ _ _ _ _ _ _ _ _ 0 0 9 _ [(.int (0 : Int32)), (.int (Int32.ofNat n))]
  refine Walk.ishr (pc' := 10) d_jdk_42_method_54_code_9 ?_
  exact Walk.iret d_jdk_42_method_54_code_10 rfl ⟨congrArg (fun z => some (Value.int z)) (shr0 _), rfl, rfl, rfl⟩ (fun _ q => q) (Nat.le_of_ble_eq_true rfl) (Nat.le_of_ble_eq_true rfl)
set_option maxRecDepth 65536 in
set_option maxHeartbeats 40000000 in
theorem c_canEnc {Z : State} {a0 : Array Value} (hw : ∀ d ∈ tables_1, d.before a0 Z = true) {h : Heap} {Ts : TsT} {Li : LiT} (c : Int32) (h1 : ¬ c < 0) (h2 : ¬ (255 : Int32) < c) :
    Con Z (⟨"java/lang/StringLatin1", "canEncode", "(I)Z"⟩ : MethodName) jdk_43_method_4_code 1 (some .boolean) ({ frames := 0, cells := 0, slots := 0, locals := 0 } : Room) [(.int c)] h Ts Li (noW) (Pu (some (.int 1)) h Ts Li) := by
  refine Con.of (ws := Fw h noW) (Ls := #[.val (.int c)]) (plainFor_of_name pn1) (fun m => by first | rfl | (simp [entryFrame, mkF, argsToLocals, Value.category]; done)) (fun E0 => ?_)
  refine Walk.iloadN (pc' := 1) d_jdk_43_method_4_code_0 rfl ?_
  refine Walk.ifNo (pc' := 4) d_jdk_43_method_4_code_1 (XT.i0_lt_f h1) ?_
  refine Walk.iloadN (pc' := 5) d_jdk_43_method_4_code_4 rfl ?_
  refine Walk.sipush (pc' := 8) (255 : Int32) d_jdk_43_method_4_code_5 rfl ?_
  refine Walk.icNo (pc' := 11) d_jdk_43_method_4_code_8 (XT.ii_gt_f h2) ?_
  refine Walk.iconst (pc' := 12) (1 : Int32) d_jdk_43_method_4_code_11 rfl ?_
  refine Walk.goto (pc' := 16) d_jdk_43_method_4_code_12 ?_
  exact Walk.nret d_jdk_43_method_4_code_16 rfl (by simp) ⟨rfl, rfl, rfl, rfl⟩ (fun _ q => q) (Nat.le_of_ble_eq_true rfl) (Nat.le_of_ble_eq_true rfl)
set_option maxRecDepth 65536 in
set_option maxHeartbeats 40000000 in
theorem c_max {Z : State} {a0 : Array Value} (hw : ∀ d ∈ tables_1, d.before a0 Z = true) {h : Heap} {Ts : TsT} {Li : LiT} (i j : Int32) (h1 : ¬ i < j) :
    Con Z (⟨"java/lang/Math", "max", "(II)I"⟩ : MethodName) jdk_29_method_65_code 2 (some .int) ({ frames := 0, cells := 0, slots := 0, locals := 0 } : Room) [(.int i), (.int j)] h Ts Li (noW) (Pu (some (.int i)) h Ts Li) := by
  refine Con.of (ws := Fw h noW) (Ls := #[.val (.int i), .val (.int j)]) (by decide +kernel) (fun m => by first | rfl | (simp [entryFrame, mkF, argsToLocals, Value.category]; done)) (fun E0 => ?_)
  refine Walk.iloadN (pc' := 1) d_jdk_29_method_65_code_0 rfl ?_
  refine Walk.iloadN (pc' := 2) d_jdk_29_method_65_code_1 rfl ?_
  refine Walk.icNo (pc' := 5) d_jdk_29_method_65_code_2 (XT.ii_lt_f h1) ?_
  refine Walk.iloadN (pc' := 6) d_jdk_29_method_65_code_5 rfl ?_
  refine Walk.goto (pc' := 10) d_jdk_29_method_65_code_6 ?_
  exact Walk.iret d_jdk_29_method_65_code_10 rfl ⟨rfl, rfl, rfl, rfl⟩ (fun _ q => q) (Nat.le_of_ble_eq_true rfl) (Nat.le_of_ble_eq_true rfl)
set_option maxRecDepth 65536 in
set_option maxHeartbeats 40000000 in
theorem c_min {Z : State} {a0 : Array Value} (hw : ∀ d ∈ tables_1, d.before a0 Z = true) {h : Heap} {Ts : TsT} {Li : LiT} (i j : Int32) (h1 : ¬ j < i) :
    Con Z (⟨"java/lang/Math", "min", "(II)I"⟩ : MethodName) jdk_29_method_69_code 2 (some .int) ({ frames := 0, cells := 0, slots := 0, locals := 0 } : Room) [(.int i), (.int j)] h Ts Li (noW) (Pu (some (.int i)) h Ts Li) := by
  refine Con.of (ws := Fw h noW) (Ls := #[.val (.int i), .val (.int j)]) (by decide +kernel) (fun m => by first | rfl | (simp [entryFrame, mkF, argsToLocals, Value.category]; done)) (fun E0 => ?_)
  refine Walk.iloadN (pc' := 1) d_jdk_29_method_69_code_0 rfl ?_
  refine Walk.iloadN (pc' := 2) d_jdk_29_method_69_code_1 rfl ?_
  refine Walk.icNo (pc' := 5) d_jdk_29_method_69_code_2 (XT.ii_gt_f h1) ?_
  refine Walk.iloadN (pc' := 6) d_jdk_29_method_69_code_5 rfl ?_
  refine Walk.goto (pc' := 10) d_jdk_29_method_69_code_6 ?_
  exact Walk.iret d_jdk_29_method_69_code_10 rfl ⟨rfl, rfl, rfl, rfl⟩ (fun _ q => q) (Nat.le_of_ble_eq_true rfl) (Nat.le_of_ble_eq_true rfl)
set_option maxRecDepth 65536 in
set_option maxHeartbeats 40000000 in
theorem c_ixc {Z : State} {a0 : Array Value} (hw : ∀ d ∈ tables_1, d.before a0 Z = true) {h : Heap} {Ts : TsT} {Li : LiT} (t : Addr) (bs : Nat → Int32) (n : Nat) (hn : n < 2147483648) (c : Int32) (A1 : Av Z h t .byte n (fun i => .int (bs i))) :
    Con Z (⟨"java/lang/StringLatin1", "indexOfChar", "([BIII)I"⟩ : MethodName) jdk_43_method_23_code 6 (some .int) ({ frames := 0, cells := 0, slots := 0, locals := 0 } : Room) [(.ref t), (.int c), (.int (0 : Int32)), (.int (Int32.ofNat n))] h Ts Li (noW) (fun v h' Ts' Li' => (∃ r : Int32, v = some (.int r) ∧ (¬ r < 0 ↔ ∃ i, i < n ∧ bs i = c.toInt8.toInt32)) ∧ h' = h ∧ Ts' = Ts ∧ Li' = Li) := by
  refine Con.of (ws := Fw h noW) (Ls := #[.val (.ref t), .val (.int c), .val (.int (0 : Int32)), .val (.int (Int32.ofNat n)), .unset, .unset]) (plainFor_of_name pn1) (fun m => by first | rfl | (simp [entryFrame, mkF, argsToLocals, Value.category]; done)) (fun E0 => ?_)
  refine Walk.iloadN (pc' := 1) d_jdk_43_method_23_code_0 rfl ?_
  refine Walk.i2b (pc' := 2) d_jdk_43_method_23_code_1 ?_
  refine Walk.istore (pc' := 4) (Ls' := #[.val (.ref t), .val (.int c), .val (.int (0 : Int32)), .val (.int (Int32.ofNat n)), .val (.int (Int32.toInt8 c).toInt32), .unset]) d_jdk_43_method_23_code_2 rfl ?_
  refine Walk.iloadN (pc' := 5) d_jdk_43_method_23_code_4 rfl ?_
  refine Walk.istore (pc' := 7) (Ls' := #[.val (.ref t), .val (.int c), .val (.int (0 : Int32)), .val (.int (Int32.ofNat n)), .val (.int (Int32.toInt8 c).toInt32), .val (.int (0 : Int32))]) d_jdk_43_method_23_code_5 rfl ?_
  have loop : ∀ k i : Nat, i + k = n → (∀ j, j < i → ¬ bs j = c.toInt8.toInt32) → Walk Z "java/lang/StringLatin1" "indexOfChar" (some .int) jdk_43_method_23_code 6 ({ frames := 0, cells := 0, slots := 0, locals := 0 } : Room) h noW (fun v h' Ts' Li' => (∃ r : Int32, v = some (.int r) ∧ (¬ r < 0 ↔ ∃ i, i < n ∧ bs i = c.toInt8.toInt32)) ∧ h' = h ∧ Ts' = Ts ∧ Li' = Li) (Fw h noW) Ts Li h 0 0 7 #[.val (.ref t), .val (.int c), .val (.int 0), .val (.int (Int32.ofNat n)), .val (.int c.toInt8.toInt32), .val (.int (Int32.ofNat i))] [] := by
    intro k
    induction k with
    | zero =>
      intro i hi hj
      obtain rfl : i = n := by omega
      refine Walk.iload (pc' := 9) d_jdk_43_method_23_code_7 rfl ?_
      refine Walk.iloadN (pc' := 10) d_jdk_43_method_23_code_9 rfl ?_
      refine Walk.icYes (pc' := 31) d_jdk_43_method_23_code_10 (XT.ii_ge_t (fun q => absurd ((n32_lt hn hn).mp q) (Nat.lt_irrefl _))) ?_
      refine Walk.iconst (pc' := 32) (-1 : Int32) d_jdk_43_method_23_code_31 rfl ?_
      exact Walk.iret d_jdk_43_method_23_code_32 rfl ⟨⟨_, rfl, ⟨fun q => absurd (by decide) q, fun ⟨j, q1, q2⟩ => absurd q2 (hj j q1)⟩⟩, rfl, rfl, rfl⟩ (fun _ q => q) (Nat.le_of_ble_eq_true rfl) (Nat.le_of_ble_eq_true rfl)
    | succ k ih =>
      intro i hi hj
      have hin : i < n := by omega
      refine Walk.iload (pc' := 9) d_jdk_43_method_23_code_7 rfl ?_
      refine Walk.iloadN (pc' := 10) d_jdk_43_method_23_code_9 rfl ?_
      refine Walk.icNo (pc' := 13) d_jdk_43_method_23_code_10 (XT.ii_ge_f ((n32_lt (by omega) hn).mpr hin)) ?_
      refine Walk.aloadN (pc' := 14) d_jdk_43_method_23_code_13 rfl rfl ?_
      refine Walk.iload (pc' := 16) d_jdk_43_method_23_code_14 rfl ?_
      refine Walk.baload (pc' := 17) (i := i) A1 d_jdk_43_method_23_code_16 (n32_nn (by omega)) (n32_nat (by omega)) hin rfl ?_
      refine Walk.iload (pc' := 19) d_jdk_43_method_23_code_17 rfl ?_
      by_cases he : bs i = c.toInt8.toInt32
      · skip
        refine Walk.icNo (pc' := 22) d_jdk_43_method_23_code_19 (XT.ii_ne_f he) ?_
        refine Walk.iload (pc' := 24) d_jdk_43_method_23_code_22 rfl ?_
        exact Walk.iret d_jdk_43_method_23_code_24 rfl ⟨⟨_, rfl, ⟨fun _ => ⟨i, hin, he⟩, fun _ => n32_nn (by omega)⟩⟩, rfl, rfl, rfl⟩ (fun _ q => q) (Nat.le_of_ble_eq_true rfl) (Nat.le_of_ble_eq_true rfl)
      · skip
        refine Walk.icYes (pc' := 25) d_jdk_43_method_23_code_19 (XT.ii_ne_t he) ?_
        refine Walk.iinc (pc' := 28) (Ls' := #[.val (.ref t), .val (.int c), .val (.int (0 : Int32)), .val (.int (Int32.ofNat n)), .val (.int c.toInt8.toInt32), .val (.int ((Int32.ofNat i) + (1 : Int32)))]) (1 : Int32) d_jdk_43_method_23_code_25 rfl rfl rfl ?_
        have e1 : Int32.ofNat i + (1 : Int32) = Int32.ofNat (i + 1) := n32_succ i
        rw [e1]
        refine Walk.goto (pc' := 7) d_jdk_43_method_23_code_28 ?_
        exact ih (i + 1) (by omega) (fun j hjj => by rcases Nat.lt_succ_iff_lt_or_eq.mp hjj with r | r; exact hj j r; exact r ▸ he)
  exact loop n 0 (by omega) (fun j q => absurd q (Nat.not_lt_zero _))
set_option maxRecDepth 65536 in
set_option maxHeartbeats 40000000 in
theorem c_ix4 {Z : State} {a0 : Array Value} (hw : ∀ d ∈ tables_1, d.before a0 Z = true) {h : Heap} {Ts : TsT} {Li : LiT} (t : Addr) (bs : Nat → Int32) (n : Nat) (hn : n < 2147483648) (c : Int32) (h1 : ¬ c < 0) (h2 : ¬ (255 : Int32) < c) (A1 : Av Z h t .byte n (fun i => .int (bs i))) :
    Con Z (⟨"java/lang/StringLatin1", "indexOf", "([BIII)I"⟩ : MethodName) jdk_43_method_22_code 4 (some .int) ({ frames := 1, cells := 0, slots := 0, locals := 17 } : Room) [(.ref t), (.int c), (.int (0 : Int32)), (.int (Int32.ofNat n))] h Ts Li (noW) (fun v h' Ts' Li' => (∃ r : Int32, v = some (.int r) ∧ (¬ r < 0 ↔ ∃ i, i < n ∧ bs i = c.toInt8.toInt32)) ∧ h' = h ∧ Ts' = Ts ∧ Li' = Li) := by
  refine Con.of (ws := Fw h noW) (Ls := #[.val (.ref t), .val (.int c), .val (.int (0 : Int32)), .val (.int (Int32.ofNat n))]) (plainFor_of_name pn1) (fun m => by first | rfl | (simp [entryFrame, mkF, argsToLocals, Value.category]; done)) (fun E0 => ?_)
  refine Walk.iloadN (pc' := 1) d_jdk_43_method_22_code_0 rfl ?_
  refine Walk.callS (pc' := 4) (Wd := 0) (as := [(.int c)]) (rest := []) (wd76 hw) (wd77 hw) (wd74 hw) (wd78 hw) ((c_canEnc hw c h1 h2).pay (wd78 hw) (wd74 hw) (by decide) (by decide)) (hlen := lenOf pd1 rfl) (hd := d_jdk_43_method_22_code_1) (hst := rfl) (hW := Nat.le_of_eq rfl) (hsz := rfl) (hc1 := Nat.le_of_ble_eq_true rfl) (hl1 := Nat.le_of_ble_eq_true rfl) (hv := Fw.upN) (kk := fun v7 h11 Ts8 Li9 q10 K12 => ?_)
  obtain ⟨rfl, rfl, rfl, rfl⟩ := q10
  show Walk _ _ _ _ _ _ _ _ _ _ _ _ _ _ 0 0 4 _ [(.int (1 : Int32))]
  refine Walk.ifYes (pc' := 9) d_jdk_43_method_22_code_4 (XT.i0_ne_t (by decide)) ?_
  refine Walk.iloadN (pc' := 10) d_jdk_43_method_22_code_9 rfl ?_
  refine Walk.iconst (pc' := 11) (0 : Int32) d_jdk_43_method_22_code_10 rfl ?_
  refine Walk.callS (pc' := 14) (Wd := 0) (as := [(.int (0 : Int32)), (.int (0 : Int32))]) (rest := []) (wd79 hw) (wd80 hw) (wd81 hw) (wd82 hw) ((c_max hw 0 0 (by decide)).pay (wd82 hw) (wd81 hw) (by decide) (by decide)) (hlen := lenOf pd2 rfl) (hd := d_jdk_43_method_22_code_11) (hst := rfl) (hW := Nat.le_of_eq rfl) (hsz := rfl) (hc1 := Nat.le_of_ble_eq_true rfl) (hl1 := Nat.le_of_ble_eq_true rfl) (hv := Fw.upN) (kk := fun v13 h17 Ts14 Li15 q16 K18 => ?_)
  obtain ⟨rfl, rfl, rfl, rfl⟩ := q16
  show Walk _ _ _ _ _ _ _ _ _ _ _ _ _ _ 0 0 14 _ [(.int (0 : Int32))]
  refine Walk.istoreN (pc' := 15) (Ls' := #[.val (.ref t), .val (.int c), .val (.int (0 : Int32)), .val (.int (Int32.ofNat n))]) d_jdk_43_method_22_code_14 rfl ?_
  refine Walk.iloadN (pc' := 16) d_jdk_43_method_22_code_15 rfl ?_
  refine Walk.aloadN (pc' := 17) d_jdk_43_method_22_code_16 rfl rfl ?_
  refine Walk.alen (pc' := 18) (z := (Int32.ofNat n)) A1 d_jdk_43_method_22_code_17 rfl ?_
  refine Walk.callS (pc' := 21) (Wd := 0) (as := [(.int (Int32.ofNat n)), (.int (Int32.ofNat n))]) (rest := []) (wd83 hw) (wd84 hw) (wd81 hw) (wd85 hw) ((c_min hw (Int32.ofNat n) (Int32.ofNat n) (fun q => absurd ((n32_lt hn hn).mp q) (Nat.lt_irrefl _))).pay (wd85 hw) (wd81 hw) (by decide) (by decide)) (hlen := lenOf pd2 rfl) (hd := d_jdk_43_method_22_code_18) (hst := rfl) (hW := Nat.le_of_eq rfl) (hsz := rfl) (hc1 := Nat.le_of_ble_eq_true rfl) (hl1 := Nat.le_of_ble_eq_true rfl) (hv := Fw.upN) (kk := fun v19 h23 Ts20 Li21 q22 K24 => ?_)
  obtain ⟨rfl, rfl, rfl, rfl⟩ := q22
  show Walk _ _ _ _ _ _ _ _ _ _ _ _ _ _ 0 0 21 _ [(.int (Int32.ofNat n))]
  refine Walk.istoreN (pc' := 22) (Ls' := #[.val (.ref t), .val (.int c), .val (.int (0 : Int32)), .val (.int (Int32.ofNat n))]) d_jdk_43_method_22_code_21 rfl ?_
  refine Walk.iloadN (pc' := 23) d_jdk_43_method_22_code_22 rfl ?_
  refine Walk.iloadN (pc' := 24) d_jdk_43_method_22_code_23 rfl ?_
  by_cases hn0 : 0 < n
  · skip
    refine Walk.icYes (pc' := 29) d_jdk_43_method_22_code_24 (XT.ii_lt_t ((n32_lt (i := 0) (by decide) hn).mpr hn0)) ?_
    refine Walk.aloadN (pc' := 30) d_jdk_43_method_22_code_29 rfl rfl ?_
    refine Walk.iloadN (pc' := 31) d_jdk_43_method_22_code_30 rfl ?_
    refine Walk.iloadN (pc' := 32) d_jdk_43_method_22_code_31 rfl ?_
    refine Walk.iloadN (pc' := 33) d_jdk_43_method_22_code_32 rfl ?_
    refine Walk.callS (pc' := 36) (Wd := 0) (as := [(.ref t), (.int c), (.int (0 : Int32)), (.int (Int32.ofNat n))]) (rest := []) (wd86 hw) (wd87 hw) (wd74 hw) (wd88 hw) ((c_ixc hw t bs n hn c A1).pay (wd88 hw) (wd74 hw) (by decide) (by decide)) (hlen := lenOf pd3 rfl) (hd := d_jdk_43_method_22_code_33) (hst := rfl) (hW := Nat.le_of_eq rfl) (hsz := rfl) (hc1 := Nat.le_of_ble_eq_true rfl) (hl1 := Nat.le_of_ble_eq_true rfl) (hv := Fw.upN) (kk := fun v25 h29 Ts26 Li27 q28 K30 => ?_)
    obtain ⟨⟨r, rfl, hr⟩, rfl, rfl, rfl⟩ := q28
    show Walk _ _ _ _ _ _ _ _ _ _ _ _ _ _ 0 0 36 _ [(.int r)]
    exact Walk.iret d_jdk_43_method_22_code_36 rfl ⟨⟨r, rfl, hr⟩, rfl, rfl, rfl⟩ (fun _ q => q) (Nat.le_of_ble_eq_true rfl) (Nat.le_of_ble_eq_true rfl)
  · skip
    refine Walk.icNo (pc' := 27) d_jdk_43_method_22_code_24 (XT.ii_lt_f (fun q => hn0 ((n32_lt (i := 0) (by decide) hn).mp q))) ?_
    refine Walk.iconst (pc' := 28) (-1 : Int32) d_jdk_43_method_22_code_27 rfl ?_
    exact Walk.iret d_jdk_43_method_22_code_28 rfl ⟨⟨_, rfl, ⟨fun q => absurd (by decide) q, fun ⟨j, q1, q2⟩ => absurd q1 (by omega)⟩⟩, rfl, rfl, rfl⟩ (fun _ q => q) (Nat.le_of_ble_eq_true rfl) (Nat.le_of_ble_eq_true rfl)
set_option maxRecDepth 65536 in
set_option maxHeartbeats 40000000 in
theorem c_ix2 {Z : State} {a0 : Array Value} (hw : ∀ d ∈ tables_1, d.before a0 Z = true) {h : Heap} {Ts : TsT} {Li : LiT} (x t : Addr) (bs : Nat → Int32) (n : Nat) (hn : n < 2147483648) (z : Int32) (hz : ¬ z = 0) (O2 : Sta Z Z.heap "java/lang/String" "COMPACT_STRINGS" "Z" (.int z)) (E1 : Exa Z h x "java/lang/String") (F1 : Fld Z h x "java/lang/String" "coder" "B" (.int 0)) (F2 : Fld Z h x "java/lang/String" "value" "[B" (.ref t)) (A1 : Av Z h t .byte n (fun i => .int (bs i))) (c : Int32) (h1 : ¬ c < 0) (h2 : ¬ (255 : Int32) < c) :
    Con Z (⟨"java/lang/String", "indexOf", "(II)I"⟩ : MethodName) jdk_42_method_80_code 3 (some .int) ({ frames := 2, cells := 0, slots := 0, locals := 32 } : Room) [(.ref x), (.int c), (.int (0 : Int32))] h Ts Li (noW) (fun v h' Ts' Li' => (∃ r : Int32, v = some (.int r) ∧ (¬ r < 0 ↔ ∃ i, i < n ∧ bs i = c.toInt8.toInt32)) ∧ h' = h ∧ Ts' = Ts ∧ Li' = Li) := by
  refine Con.of (ws := Fw h noW) (Ls := #[.val (.ref x), .val (.int c), .val (.int (0 : Int32))]) (plainFor_of_name pn0) (fun m => by first | rfl | (simp [entryFrame, mkF, argsToLocals, Value.category]; done)) (fun E0 => ?_)
  refine Walk.aloadN (pc' := 1) d_jdk_42_method_80_code_0 rfl rfl ?_
  refine Walk.callV (pc' := 4) (a := x) (Wd := 0) (as := []) (rest := []) (wd57 hw) (wd58 hw) (wd60 hw) (wd60 hw) (wd59 hw) E1 ((c_isLatin1 hw x z hz O2 E1 F1).pay (wd61 hw) (wd12 hw) (by decide) (by decide)) (hlen := lenOf pd4 rfl) (hd := d_jdk_42_method_80_code_1) (hst := rfl) (hW := Nat.le_of_eq rfl) (hsz := rfl) (hc1 := Nat.le_of_ble_eq_true rfl) (hl1 := Nat.le_of_ble_eq_true rfl) (hv := Fw.upN) (kk := fun v31 h35 Ts32 Li33 q34 K36 => ?_)
  obtain ⟨rfl, rfl, rfl, rfl⟩ := q34
  show Walk _ _ _ _ _ _ _ _ _ _ _ _ _ _ 0 0 4 _ [(.int (1 : Int32))]
  refine Walk.ifNo (pc' := 7) d_jdk_42_method_80_code_4 (XT.i0_eq_f (by decide)) ?_
  refine Walk.aloadN (pc' := 8) d_jdk_42_method_80_code_7 rfl rfl ?_
  refine Walk.getF (pc' := 11) (host := "") (Or.inl (wd38 hw)) Via.refl F2 d_jdk_42_method_80_code_8 ?_
  refine Walk.iloadN (pc' := 12) d_jdk_42_method_80_code_11 rfl ?_
  refine Walk.iloadN (pc' := 13) d_jdk_42_method_80_code_12 rfl ?_
  refine Walk.aloadN (pc' := 14) d_jdk_42_method_80_code_13 rfl rfl ?_
  refine Walk.callV (pc' := 17) (a := x) (Wd := 3) (as := []) (rest := [(.int (0 : Int32)), (.int c), (.ref t)]) (wd62 hw) (wd63 hw) (wd65 hw) (wd65 hw) (wd64 hw) E1 ((c_len hw x t bs n hn z hz O2 E1 F1 F2 A1).pay (Wd := 3) (wd66 hw) (wd12 hw) (by decide) (by decide)) (hlen := lenOf pd5 rfl) (hd := d_jdk_42_method_80_code_14) (hst := rfl) (hW := Nat.le_of_eq rfl) (hsz := rfl) (hc1 := Nat.le_of_ble_eq_true rfl) (hl1 := Nat.le_of_ble_eq_true rfl) (hv := Fw.upN) (kk := fun v37 h41 Ts38 Li39 q40 K42 => ?_)
  obtain ⟨rfl, rfl, rfl, rfl⟩ := q40
  show Walk _ _ _ _ _ _ _ _ _ _ _ _ _ _ 0 0 17 _ [(.int (Int32.ofNat n)), (.int (0 : Int32)), (.int c), (.ref t)]
  refine Walk.callS (pc' := 20) (Wd := 0) (as := [(.ref t), (.int c), (.int (0 : Int32)), (.int (Int32.ofNat n))]) (rest := []) (wd72 hw) (wd73 hw) (wd74 hw) (wd75 hw) ((c_ix4 hw t bs n hn c h1 h2 A1).pay (wd75 hw) (wd74 hw) (by decide) (by decide)) (hlen := lenOf pd3 rfl) (hd := d_jdk_42_method_80_code_17) (hst := rfl) (hW := Nat.le_of_eq rfl) (hsz := rfl) (hc1 := Nat.le_of_ble_eq_true rfl) (hl1 := Nat.le_of_ble_eq_true rfl) (hv := Fw.upN) (kk := fun v43 h47 Ts44 Li45 q46 K48 => ?_)
  obtain ⟨⟨r, rfl, hr⟩, rfl, rfl, rfl⟩ := q46
  show Walk _ _ _ _ _ _ _ _ _ _ _ _ _ _ 0 0 20 _ [(.int r)]
  refine Walk.goto (pc' := 36) d_jdk_42_method_80_code_20 ?_
  exact Walk.iret d_jdk_42_method_80_code_36 rfl ⟨⟨r, rfl, hr⟩, rfl, rfl, rfl⟩ (fun _ q => q) (Nat.le_of_ble_eq_true rfl) (Nat.le_of_ble_eq_true rfl)
set_option maxRecDepth 65536 in
set_option maxHeartbeats 40000000 in
theorem c_ix1 {Z : State} {a0 : Array Value} (hw : ∀ d ∈ tables_1, d.before a0 Z = true) {h : Heap} {Ts : TsT} {Li : LiT} (x t : Addr) (bs : Nat → Int32) (n : Nat) (hn : n < 2147483648) (z : Int32) (hz : ¬ z = 0) (O2 : Sta Z Z.heap "java/lang/String" "COMPACT_STRINGS" "Z" (.int z)) (E1 : Exa Z h x "java/lang/String") (F1 : Fld Z h x "java/lang/String" "coder" "B" (.int 0)) (F2 : Fld Z h x "java/lang/String" "value" "[B" (.ref t)) (A1 : Av Z h t .byte n (fun i => .int (bs i))) (c : Int32) (h1 : ¬ c < 0) (h2 : ¬ (255 : Int32) < c) :
    Con Z (⟨"java/lang/String", "indexOf", "(I)I"⟩ : MethodName) jdk_42_method_79_code 2 (some .int) ({ frames := 3, cells := 0, slots := 0, locals := 46 } : Room) [(.ref x), (.int c)] h Ts Li (noW) (fun v h' Ts' Li' => (∃ r : Int32, v = some (.int r) ∧ (¬ r < 0 ↔ ∃ i, i < n ∧ bs i = c.toInt8.toInt32)) ∧ h' = h ∧ Ts' = Ts ∧ Li' = Li) := by
  refine Con.of (ws := Fw h noW) (Ls := #[.val (.ref x), .val (.int c)]) (plainFor_of_name pn0) (fun m => by first | rfl | (simp [entryFrame, mkF, argsToLocals, Value.category]; done)) (fun E0 => ?_)
  refine Walk.aloadN (pc' := 1) d_jdk_42_method_79_code_0 rfl rfl ?_
  refine Walk.iloadN (pc' := 2) d_jdk_42_method_79_code_1 rfl ?_
  refine Walk.iconst (pc' := 3) (0 : Int32) d_jdk_42_method_79_code_2 rfl ?_
  refine Walk.callV (pc' := 6) (a := x) (Wd := 0) (as := [(.int c), (.int (0 : Int32))]) (rest := []) (wd52 hw) (wd53 hw) (wd55 hw) (wd55 hw) (wd54 hw) E1 ((c_ix2 hw x t bs n hn z hz O2 E1 F1 F2 A1 c h1 h2).pay (wd56 hw) (wd12 hw) (by decide) (by decide)) (hlen := lenOf pd2 rfl) (hd := d_jdk_42_method_79_code_3) (hst := rfl) (hW := Nat.le_of_eq rfl) (hsz := rfl) (hc1 := Nat.le_of_ble_eq_true rfl) (hl1 := Nat.le_of_ble_eq_true rfl) (hv := Fw.upN) (kk := fun v49 h53 Ts50 Li51 q52 K54 => ?_)
  obtain ⟨⟨r, rfl, hr⟩, rfl, rfl, rfl⟩ := q52
  show Walk _ _ _ _ _ _ _ _ _ _ _ _ _ _ 0 0 6 _ [(.int r)]
  exact Walk.iret d_jdk_42_method_79_code_6 rfl ⟨⟨r, rfl, hr⟩, rfl, rfl, rfl⟩ (fun _ q => q) (Nat.le_of_ble_eq_true rfl) (Nat.le_of_ble_eq_true rfl)
set_option maxRecDepth 65536 in
set_option maxHeartbeats 40000000 in
theorem c_may {Z : State} {a0 : Array Value} (hw : ∀ d ∈ tables_1, d.before a0 Z = true) {h : Heap} {Ts : TsT} {Li : LiT} (c : Int32) (s : Addr) (F9 : Fld Z h s "com/example/cubeset/cubeset/sql/SessionSetting" "character" "C" (.int c)) (x t : Addr) (bs : Nat → Int32) (n : Nat) (hn : n < 2147483648) (z : Int32) (hz : ¬ z = 0) (O2 : Sta Z Z.heap "java/lang/String" "COMPACT_STRINGS" "Z" (.int z)) (E1 : Exa Z h x "java/lang/String") (F1 : Fld Z h x "java/lang/String" "coder" "B" (.int 0)) (F2 : Fld Z h x "java/lang/String" "value" "[B" (.ref t)) (A1 : Av Z h t .byte n (fun i => .int (bs i))) (h1 : ¬ c < 0) (h2 : ¬ (255 : Int32) < c) :
    Con Z (⟨"com/example/cubeset/cubeset/sql/SessionSetting", "mayChangeReadingOf", "(Ljava/lang/String;)Z"⟩ : MethodName) prog_62_method_5_code 2 (some .boolean) ({ frames := 4, cells := 0, slots := 0, locals := 59 } : Room) [(.ref s), (.ref x)] h Ts Li (noW) (fun v h' Ts' Li' => (∃ r : Int32, v = some (.int r) ∧ (r = 0 ∨ r = 1) ∧ (r = 1 ↔ ∃ i, i < n ∧ bs i = c.toInt8.toInt32)) ∧ h' = h ∧ Ts' = Ts ∧ Li' = Li) := by
  refine Con.of (ws := Fw h noW) (Ls := #[.val (.ref s), .val (.ref x)]) (plainFor_of_name pn2) (fun m => by first | rfl | (simp [entryFrame, mkF, argsToLocals, Value.category]; done)) (fun E0 => ?_)
  refine Walk.aloadN (pc' := 1) d_prog_62_method_5_code_0 rfl rfl ?_
  refine Walk.aloadN (pc' := 2) d_prog_62_method_5_code_1 rfl rfl ?_
  refine Walk.getF (pc' := 5) (host := "") (Or.inl (wd45 hw)) Via.refl F9 d_prog_62_method_5_code_2 ?_
  refine Walk.callV (pc' := 8) (a := x) (Wd := 0) (as := [(.int c)]) (rest := []) (wd47 hw) (wd48 hw) (wd50 hw) (wd50 hw) (wd49 hw) E1 ((c_ix1 hw x t bs n hn z hz O2 E1 F1 F2 A1 c h1 h2).pay (wd51 hw) (wd12 hw) (by decide) (by decide)) (hlen := lenOf pd6 rfl) (hd := d_prog_62_method_5_code_5) (hst := rfl) (hW := Nat.le_of_eq rfl) (hsz := rfl) (hc1 := Nat.le_of_ble_eq_true rfl) (hl1 := Nat.le_of_ble_eq_true rfl) (hv := Fw.upN) (kk := fun v55 h59 Ts56 Li57 q58 K60 => ?_)
  obtain ⟨⟨r, rfl, hr⟩, rfl, rfl, rfl⟩ := q58
  show Walk _ _ _ _ _ _ _ _ _ _ _ _ _ _ 0 0 8 _ [(.int r)]
  by_cases hr0 : r < 0
  · skip
    refine Walk.ifYes (pc' := 15) d_prog_62_method_5_code_8 (XT.i0_lt_t hr0) ?_
    refine Walk.iconst (pc' := 16) (0 : Int32) d_prog_62_method_5_code_15 rfl ?_
    exact Walk.nret d_prog_62_method_5_code_16 rfl (by simp) ⟨⟨_, rfl, Or.inl rfl, ⟨fun q => absurd q (by decide), fun q => absurd hr0 (hr.mpr q)⟩⟩, rfl, rfl, rfl⟩ (fun _ q => q) (Nat.le_of_ble_eq_true rfl) (Nat.le_of_ble_eq_true rfl)
  · skip
    refine Walk.ifNo (pc' := 11) d_prog_62_method_5_code_8 (XT.i0_lt_f hr0) ?_
    refine Walk.iconst (pc' := 12) (1 : Int32) d_prog_62_method_5_code_11 rfl ?_
    refine Walk.goto (pc' := 16) d_prog_62_method_5_code_12 ?_
    exact Walk.nret d_prog_62_method_5_code_16 rfl (by simp) ⟨⟨_, rfl, Or.inr rfl, ⟨fun _ => hr.mp hr0, fun _ => rfl⟩⟩, rfl, rfl, rfl⟩ (fun _ q => q) (Nat.le_of_ble_eq_true rfl) (Nat.le_of_ble_eq_true rfl)
set_option maxRecDepth 65536 in
set_option maxHeartbeats 40000000 in
theorem c_pick {Z : State} {a0 : Array Value} (hw : ∀ d ∈ tables_1, d.before a0 Z = true) {h : Heap} {Ts : TsT} {Li : LiT} (p : Int32) :
    Con Z (⟨"com/example/cubeset/cubeset/sql/SessionSettingMayChangeReadingOfPinLaw", "pick", "(I)C"⟩ : MethodName) method_2_code 2 (some .char) ({ frames := 0, cells := 0, slots := 0, locals := 0 } : Room) [(.int p)] h Ts Li (noW) (Pu (some (.int (own_pk p))) h Ts Li) := by
  refine Con.of (ws := Fw h noW) (Ls := #[.val (.int p), .unset]) (plainFor_of_name pn3) (fun m => by first | rfl | (simp [entryFrame, mkF, argsToLocals, Value.category]; done)) (fun E0 => ?_)
  refine Walk.iloadN (pc' := 1) d_method_2_code_0 rfl ?_
  refine Walk.iconst (pc' := 2) (3 : Int32) d_method_2_code_1 rfl ?_
  refine Walk.iand (pc' := 3) d_method_2_code_2 ?_
  refine Walk.istoreN (pc' := 4) (Ls' := #[.val (.int p), .val (.int (p &&& (3 : Int32)))]) d_method_2_code_3 rfl ?_
  refine Walk.iloadN (pc' := 5) d_method_2_code_4 rfl ?_
  by_cases h0 : (p &&& (3 : Int32)) = 0
  · skip
    refine Walk.ifNo (pc' := 8) d_method_2_code_5 (XT.i0_ne_f h0) ?_
    refine Walk.bipush (pc' := 10) (34 : Int32) d_method_2_code_8 rfl ?_
    exact Walk.nret d_method_2_code_10 rfl (by simp) ⟨by show some (Value.int _) = some (Value.int (own_pk p)); simp only [own_pk, h0, if_true]; rfl, rfl, rfl, rfl⟩ (fun _ q => q) (Nat.le_of_ble_eq_true rfl) (Nat.le_of_ble_eq_true rfl)
  · skip
    refine Walk.ifYes (pc' := 11) d_method_2_code_5 (XT.i0_ne_t h0) ?_
    refine Walk.iloadN (pc' := 12) d_method_2_code_11 rfl ?_
    refine Walk.iconst (pc' := 13) (1 : Int32) d_method_2_code_12 rfl ?_
    by_cases h1 : (p &&& (3 : Int32)) = 1
    · skip
      refine Walk.icNo (pc' := 16) d_method_2_code_13 (XT.ii_ne_f h1) ?_
      refine Walk.bipush (pc' := 18) (92 : Int32) d_method_2_code_16 rfl ?_
      exact Walk.nret d_method_2_code_18 rfl (by simp) ⟨by show some (Value.int _) = some (Value.int (own_pk p)); rw [own_pk, if_neg h0, if_pos h1]; rfl, rfl, rfl, rfl⟩ (fun _ q => q) (Nat.le_of_ble_eq_true rfl) (Nat.le_of_ble_eq_true rfl)
    · skip
      refine Walk.icYes (pc' := 19) d_method_2_code_13 (XT.ii_ne_t h1) ?_
      refine Walk.iloadN (pc' := 20) d_method_2_code_19 rfl ?_
      refine Walk.iconst (pc' := 21) (2 : Int32) d_method_2_code_20 rfl ?_
      refine Walk.iushr (pc' := 22) d_method_2_code_21 ?_
      refine Walk.sipush (pc' := 25) (255 : Int32) d_method_2_code_22 rfl ?_
      refine Walk.iand (pc' := 26) d_method_2_code_25 ?_
      refine Walk.i2c (pc' := 27) d_method_2_code_26 ?_
      exact Walk.nret d_method_2_code_27 rfl (by simp) ⟨by show some (Value.int _) = some (Value.int (own_pk p)); rw [own_pk, if_neg h0, if_neg h1], rfl, rfl, rfl⟩ (fun _ q => q) (Nat.le_of_ble_eq_true rfl) (Nat.le_of_ble_eq_true rfl)
set_option maxRecDepth 65536 in
set_option maxHeartbeats 40000000 in
theorem c_emp4 {Z : State} {a0 : Array Value} (hw : ∀ d ∈ tables_1, d.before a0 Z = true) {h : Heap} {Ts : TsT} {Li : LiT} (x b : Addr) (bs : Nat → Int32) (c0 : Value) (E1 : Exa Z h x "java/lang/String") (F1 : Fld Z h x "java/lang/String" "coder" "B" c0) (F2 : Fld Z h x "java/lang/String" "value" "[B" .null) (gz : Z.heap.size ≤ x) (hcw : Jvm.Lit.compactW.before a0 Z = true) (hTs : Ts = some []) (hh : Jvm.Lit.constHeld Z "java/lang/String" 7) :
    Con Z (⟨"java/lang/String", "<init>", "([CIILjava/lang/Void;)V"⟩ : MethodName) jdk_42_method_149_code 6 none ({ frames := 1, cells := 2, slots := 4, locals := 12 } : Room) [(.ref x), (.ref b), (.int (0 : Int32)), (.int (0 : Int32)), .null] h Ts Li (fun y => y.base = x) (fun v h' Ts' Li' => v = none ∧ ∃ t, Exa Z h' x "java/lang/String" ∧ Fld Z h' x "java/lang/String" "coder" "B" (.int 0) ∧ Fld Z h' x "java/lang/String" "value" "[B" (.ref t) ∧ Av Z h' t .byte 0 (fun i => .int (bs i))) := by
  refine Con.of (ws := Fw h noW) (Ls := #[.val (.ref x), .val (.ref b), .val (.int (0 : Int32)), .val (.int (0 : Int32)), .val .null, .unset]) (plainFor_of_name pn0) (fun m => by first | rfl | (simp [entryFrame, mkF, argsToLocals, Value.category]; done)) (fun E0 => ?_)
  refine Walk.aloadN (pc' := 1) d_jdk_42_method_149_code_0 rfl rfl ?_
  refine Walk.initO (pc' := 4) (wd21 hw) (wd22 hw) (wd23 hw) d_jdk_42_method_149_code_1 rfl (Wd := 0) (Nat.le_of_eq rfl) (by decide) (by decide) ?_
  refine Walk.iloadN (pc' := 5) d_jdk_42_method_149_code_4 rfl ?_
  refine Walk.ifNo (pc' := 8) d_jdk_42_method_149_code_5 (XT.i0_ne_f rfl) ?_
  refine Walk.aloadN (pc' := 9) d_jdk_42_method_149_code_8 rfl rfl ?_
  refine Walk.ldcNew (pc' := 11) (wd91 hw) (fun d hd => hw d ((by decide +kernel : ∀ d ∈ Bundle.stringAtoms, d ∈ tables_1) d hd)) hh hcw hTs (by decide) (fun y q => q.elim id fun q => q.elim) (vs := []) (z := 0) ⟨by decide, by decide⟩ (by decide) rfl d_jdk_42_method_149_code_9 (n := 0) (by decide) (by decide) (by decide) (by decide) (fun h61 y63 u64 k65 K62 E66 F67 F68 R69 => ?_)
  show Walk _ _ _ _ _ _ _ _ _ _ _ _ _ _ 2 4 11 _ [(.ref y63), (.ref x)]
  refine Walk.ws_mono (ws' := Fw h (fun y => y.base = x)) (fun y q => q.imp id fun q => q.elim) ?_
  have hyx : y63 ≠ x := Fld.ne F68 (F2.kq K62 (fun q => q)) (fun q => nomatch q)
  refine Walk.getF (pc' := 14) (host := "") (Or.inl (wd38 hw)) Via.refl F68 d_jdk_42_method_149_code_11 ?_
  refine Walk.putF (pc' := 17) (host := "") (Or.inl (wd38 hw)) Via.refl (F2.kq K62 (fun q => q)) (E1.kq K62) (Or.inr ⟨(wd39 hw), rfl, rfl⟩) (wd11 hw) (ty := (.array .byte)) (by decide) rfl rfl d_jdk_42_method_149_code_14 gz (Fw.old rfl) (fun h70 K71 F72 => ?_)
  refine Walk.aloadN (pc' := 18) d_jdk_42_method_149_code_17 rfl rfl ?_
  refine Walk.ldcAgain (pc' := 20) (a := y63) (wd91 hw) (List.mem_cons_self ..) d_jdk_42_method_149_code_18 ?_
  refine Walk.getF (pc' := 23) (host := "") (Or.inl (wd36 hw)) Via.refl (F67.kq K71 (nw hyx)) d_jdk_42_method_149_code_20 ?_
  refine Walk.putF (pc' := 26) (host := "") (Or.inl (wd36 hw)) Via.refl ((F1.kq K62 (fun q => q)).kq K71 (nws (slot_ne (a0 := a0) (Or.inr (wd37 hw)) (Or.inr (wd39 hw)) (by decide) (t := .byte) (by decide) (t' := (.array .byte)) (by decide)))) ((E1.kq K62).kq K71) (Or.inr ⟨(wd37 hw), rfl, rfl⟩) (wd11 hw) (ty := .byte) (by decide) rfl rfl d_jdk_42_method_149_code_23 gz (Fw.old rfl) (fun h73 K74 F75 => ?_)
  exact Walk.ret d_jdk_42_method_149_code_26 rfl ⟨rfl, u64, (((E1.kq K62).kq K71).kq K74), F75, (F72.kq K74 (nws (slot_ne (a0 := a0) (Or.inr (wd39 hw)) (Or.inr (wd37 hw)) (by decide) (t := (.array .byte)) (by decide) (t' := .byte) (by decide)))), Av.kq0 (((Av.of_arv R69 (n := 0) rfl).kq K71 (fun _ => (nw (Ne.symm (exa_av (E1.kq K62) (wd11 hw) (Av.of_arv R69 (n := 0) rfl)))))).kq K74 (fun _ => (nw (Ne.symm (exa_av (E1.kq K62) (wd11 hw) (Av.of_arv R69 (n := 0) rfl))))))⟩ (fun _ q => q) (Nat.le_of_ble_eq_true rfl) (Nat.le_of_ble_eq_true rfl)
set_option maxRecDepth 65536 in
set_option maxHeartbeats 40000000 in
theorem c_emp1 {Z : State} {a0 : Array Value} (hw : ∀ d ∈ tables_1, d.before a0 Z = true) {h : Heap} {Ts : TsT} {Li : LiT} (x b : Addr) (bs : Nat → Int32) (c0 : Value) (f : Nat → Value) (E1 : Exa Z h x "java/lang/String") (F1 : Fld Z h x "java/lang/String" "coder" "B" c0) (F2 : Fld Z h x "java/lang/String" "value" "[B" .null) (A1 : Av Z h b .char 0 f) (gz : Z.heap.size ≤ x) (hcw : Jvm.Lit.compactW.before a0 Z = true) (hTs : Ts = some []) (hh : Jvm.Lit.constHeld Z "java/lang/String" 7) :
    Con Z (⟨"java/lang/String", "<init>", "([C)V"⟩ : MethodName) jdk_42_method_3_code 2 none ({ frames := 2, cells := 2, slots := 4, locals := 29 } : Room) [(.ref x), (.ref b)] h Ts Li (fun y => y.base = x) (fun v h' Ts' Li' => v = none ∧ ∃ t, Exa Z h' x "java/lang/String" ∧ Fld Z h' x "java/lang/String" "coder" "B" (.int 0) ∧ Fld Z h' x "java/lang/String" "value" "[B" (.ref t) ∧ Av Z h' t .byte 0 (fun i => .int (bs i))) := by
  refine Con.of (ws := Fw h fun y => y.base = x) (Ls := #[.val (.ref x), .val (.ref b)]) (plainFor_of_name pn0) (fun m => by first | rfl | (simp [entryFrame, mkF, argsToLocals, Value.category]; done)) (fun E0 => ?_)
  refine Walk.aloadN (pc' := 1) d_jdk_42_method_3_code_0 rfl rfl ?_
  refine Walk.aloadN (pc' := 2) d_jdk_42_method_3_code_1 rfl rfl ?_
  refine Walk.iconst (pc' := 3) (0 : Int32) d_jdk_42_method_3_code_2 rfl ?_
  refine Walk.aloadN (pc' := 4) d_jdk_42_method_3_code_3 rfl rfl ?_
  refine Walk.alen (pc' := 5) (z := (0 : Int32)) A1 d_jdk_42_method_3_code_4 rfl ?_
  refine Walk.aconstNull (pc' := 6) d_jdk_42_method_3_code_5 ?_
  refine Walk.callI (pc' := 9) (a := x) (Wd := 0) (as := [(.ref b), (.int (0 : Int32)), (.int (0 : Int32)), .null]) (rest := []) (wd17 hw) (wd18 hw) (wd20 hw) ((c_emp4 hw x b bs c0 E1 F1 F2 gz hcw hTs hh).pay (wd20 hw) (wd12 hw) (by decide) (by decide)) (hlen := lenOf pd7 rfl) (hd := d_jdk_42_method_3_code_6) (hst := rfl) (hW := Nat.le_of_eq rfl) (hsz := rfl) (hc1 := Nat.le_of_ble_eq_true rfl) (hl1 := Nat.le_of_ble_eq_true rfl) (hv := (Fw.up (fun y q => Fw.old q))) (kk := fun v76 h80 Ts77 Li78 q79 K81 => ?_)
  obtain ⟨rfl, t, e1, e2, e3, e4⟩ := q79
  show Walk _ _ _ _ _ _ _ _ _ _ _ _ _ _ 2 4 9 _ []
  exact Walk.ret d_jdk_42_method_3_code_9 rfl ⟨rfl, t, e1, e2, e3, e4⟩ (fun _ q => q) (Nat.le_of_ble_eq_true rfl) (Nat.le_of_ble_eq_true rfl)
set_option maxRecDepth 65536 in
set_option maxHeartbeats 40000000 in
theorem c_build0 {Z : State} {a0 : Array Value} (hw : ∀ d ∈ tables_1, d.before a0 Z = true) {h : Heap} {Ts : TsT} {Li : LiT} (a b c : Int32) (z : Int32) (hz : ¬ z = 0) (O2 : Sta Z Z.heap "java/lang/String" "COMPACT_STRINGS" "Z" (.int z)) (hcw : Jvm.Lit.compactW.before a0 Z = true) (hTs : Ts = some []) (hh : Jvm.Lit.constHeld Z "java/lang/String" 7)  :
    Con Z (⟨"com/example/cubeset/cubeset/sql/SessionSettingMayChangeReadingOfPinLaw", "build", "(ICCC)Ljava/lang/String;"⟩ : MethodName) method_3_code 4 (some (.object "java/lang/String")) ({ frames := 4, cells := 4, slots := 10, locals := 66 } : Room) [(.int (0 : Int32)), (.int a), (.int b), (.int c)] h Ts Li (noW) (fun v h' Ts' Li' => ∃ x t, v = some (.ref x) ∧ Exa Z h' x "java/lang/String" ∧ Fld Z h' x "java/lang/String" "coder" "B" (.int 0) ∧ Fld Z h' x "java/lang/String" "value" "[B" (.ref t) ∧ Av Z h' t .byte 0 (fun i => .int (([] : List Int32).getD i 0).toInt8.toInt32)) := by
  refine Con.of (ws := Fw h noW) (Ls := #[.val (.int (0 : Int32)), .val (.int a), .val (.int b), .val (.int c)]) (plainFor_of_name pn3) (fun m => by first | rfl | (simp [entryFrame, mkF, argsToLocals, Value.category]; done)) (fun E0 => ?_)
  refine Walk.iloadN (pc' := 1) d_method_3_code_0 rfl ?_
  refine Walk.ifNo (pc' := 4) d_method_3_code_1 (XT.i0_ne_f rfl) ?_
  refine Walk.newO (pc' := 7) (wd10 hw) (wd11 hw) (wd12 hw) d_method_3_code_4 (by decide) (by decide) (fun h82 x84 g85 g86 g87 K83 E88 D89 => ?_)
  have F90 : Fld Z h82 x84 "java/lang/String" "value" "[B" .null := D89 (Or.inr (wd39 hw)) (ty := (.array .byte)) (by decide)
  have F91 : Fld Z h82 x84 "java/lang/String" "coder" "B" (.int (0 : Int32)) := D89 (Or.inr (wd37 hw)) (ty := .byte) (by decide)
  refine Walk.dup (pc' := 8) d_method_3_code_7 rfl ?_
  refine Walk.iconst (pc' := 9) (0 : Int32) d_method_3_code_8 rfl ?_
  refine Walk.newA (pc' := 11) (aty := .char) (cap := 0) (wd13 hw) d_method_3_code_9 (by decide) (by decide) (by decide) (by decide) (by decide) (fun h92 x94 g95 g96 g97 K93 A98 R99 => ?_)
  refine Walk.callI (pc' := 14) (a := x84) (Wd := 1) (as := [(.ref x94)]) (rest := [(.ref x84)]) (wd14 hw) (wd15 hw) (wd16 hw) ((c_emp1 hw x84 x94 (fun i => (([] : List Int32).getD i 0).toInt8.toInt32) _ _ (E88.kq K93) (F91.kq K93 (fun q => q)) (F90.kq K93 (fun q => q)) A98 g87 hcw hTs hh).pay (Wd := 1) (wd16 hw) (wd12 hw) (by decide) (by decide)) (hlen := lenOf pd8 rfl) (hd := d_method_3_code_11) (hst := rfl) (hW := Nat.le_of_eq rfl) (hsz := rfl) (hc1 := Nat.le_of_ble_eq_true rfl) (hl1 := Nat.le_of_ble_eq_true rfl) (hv := (Fw.up (fun y q => Or.inl (q ▸ g86)))) (kk := fun v100 h104 Ts101 Li102 q103 K105 => ?_)
  obtain ⟨rfl, t, e1, e2, e3, e4⟩ := q103
  show Walk _ _ _ _ _ _ _ _ _ _ _ _ _ _ 4 8 14 _ [(.ref x84)]
  exact Walk.aret d_method_3_code_14 rfl rfl rfl ⟨_, t, rfl, e1, e2, e3, e4⟩ (fun _ q => q) (Nat.le_of_ble_eq_true rfl) (Nat.le_of_ble_eq_true rfl)
set_option maxRecDepth 65536 in
set_option maxHeartbeats 40000000 in
theorem c_build1 {Z : State} {a0 : Array Value} (hw : ∀ d ∈ tables_1, d.before a0 Z = true) {h : Heap} {Ts : TsT} {Li : LiT} (a b c : Int32) (z : Int32) (hz : ¬ z = 0) (O2 : Sta Z Z.heap "java/lang/String" "COMPACT_STRINGS" "Z" (.int z)) (hcw : Jvm.Lit.compactW.before a0 Z = true) (hTs : Ts = some []) (hh : Jvm.Lit.constHeld Z "java/lang/String" 7) (ra : ¬ a < 0 ∧ ¬ (255 : Int32) < a) :
    Con Z (⟨"com/example/cubeset/cubeset/sql/SessionSettingMayChangeReadingOfPinLaw", "build", "(ICCC)Ljava/lang/String;"⟩ : MethodName) method_3_code 4 (some (.object "java/lang/String")) ({ frames := 4, cells := 4, slots := 10, locals := 66 } : Room) [(.int (1 : Int32)), (.int a), (.int b), (.int c)] h Ts Li (noW) (fun v h' Ts' Li' => ∃ x t, v = some (.ref x) ∧ Exa Z h' x "java/lang/String" ∧ Fld Z h' x "java/lang/String" "coder" "B" (.int 0) ∧ Fld Z h' x "java/lang/String" "value" "[B" (.ref t) ∧ Av Z h' t .byte 1 (fun i => .int (([a] : List Int32).getD i 0).toInt8.toInt32)) := by
  refine Con.of (ws := Fw h noW) (Ls := #[.val (.int (1 : Int32)), .val (.int a), .val (.int b), .val (.int c)]) (plainFor_of_name pn3) (fun m => by first | rfl | (simp [entryFrame, mkF, argsToLocals, Value.category]; done)) (fun E0 => ?_)
  have hws : ∀ d ∈ StrChars.Road.words, d.before a0 Z = true := fun d hd => hw d ((by decide +kernel : ∀ d ∈ StrChars.Road.words, d ∈ tables_1) d hd)
  refine Walk.iloadN (pc' := 1) d_method_3_code_0 rfl ?_
  refine Walk.ifYes (pc' := 15) d_method_3_code_1 (XT.i0_ne_t (by decide)) ?_
  refine Walk.iloadN (pc' := 16) d_method_3_code_15 rfl ?_
  refine Walk.iconst (pc' := 17) (1 : Int32) d_method_3_code_16 rfl ?_
  refine Walk.icNo (pc' := 20) d_method_3_code_17 (XT.ii_ne_f rfl) ?_
  refine Walk.newO (pc' := 23) (wd10 hw) (wd11 hw) (wd12 hw) d_method_3_code_20 (by decide) (by decide) (fun h106 x108 g109 g110 g111 K107 E112 D113 => ?_)
  have F114 : Fld Z h106 x108 "java/lang/String" "value" "[B" .null := D113 (Or.inr (wd39 hw)) (ty := (.array .byte)) (by decide)
  have F115 : Fld Z h106 x108 "java/lang/String" "coder" "B" (.int (0 : Int32)) := D113 (Or.inr (wd37 hw)) (ty := .byte) (by decide)
  refine Walk.dup (pc' := 24) d_method_3_code_23 rfl ?_
  refine Walk.iconst (pc' := 25) (1 : Int32) d_method_3_code_24 rfl ?_
  refine Walk.newA (pc' := 27) (aty := .char) (cap := 1) (wd13 hw) d_method_3_code_25 (by decide) (by decide) (by decide) (by decide) (by decide) (fun h116 x118 g119 g120 g121 K117 A122 R123 => ?_)
  refine Walk.dup (pc' := 28) d_method_3_code_27 rfl ?_
  refine Walk.iconst (pc' := 29) (0 : Int32) d_method_3_code_28 rfl ?_
  refine Walk.iloadN (pc' := 30) d_method_3_code_29 rfl ?_
  refine Walk.castore (pc' := 31) (i := 0) A122 d_method_3_code_30 (by decide) rfl (by decide) g121 (Fw.fresh g120) (fun h124 K125 A126 Wr127 => ?_)
  obtain ⟨kc, ac⟩ := Av.arv A126 (z := 1) (by decide) rfl (vs := ([a] : List Int32).map Value.int) (d := .int 0) (fun i hi => by match i, hi with | 0, _ => exact congrArg Value.int (own_nar_rng ra).symm) (fun i hi => by match i, hi with | 0, _ => exact fits_nar_char _)
  refine Walk.old fun E9 => ?_
  refine Walk.callI (pc' := 34) (a := x108) (Wd := 1) (as := [(.ref x118)]) (rest := [(.ref x108)]) (wd14 hw) (wd15 hw) (wd16 hw) (own_newStr (Wd := 1) hws (wd11 hw) ((E112.kq K117).kq K125) ((F114.kq K117 (fun q => q)).kq K125 (nw (ltne E112.lt g119))) ((F115.kq K117 (fun q => q)).kq K125 (nw (ltne E112.lt g119))) ac O2 hz rfl (Nat.le_of_ble_eq_true rfl) (Nat.le_of_ble_eq_true rfl) (fun q hq => by simp only [List.mem_cons, List.not_mem_nil, or_false] at hq; rcases hq with rfl; all_goals first | exact ra.2) (by decide) (by decide) g111 E9) (hlen := lenOf pd8 rfl) (hd := d_method_3_code_31) (hst := rfl) (hW := Nat.le_of_eq rfl) (hsz := rfl) (hc1 := Nat.le_of_ble_eq_true rfl) (hl1 := Nat.le_of_ble_eq_true rfl) (hv := (Fw.up (fun y q => Or.inl (q ▸ g110)))) (kk := fun v128 h132 Ts129 Li130 q131 K133 => ?_)
  obtain ⟨⟨rfl, rfl, rfl⟩, t, gt, e1, e3, e2, ⟨kb, ab⟩, -⟩ := q131
  show Walk _ _ _ _ _ _ _ _ _ _ _ _ _ _ 3 6 34 _ [(.ref x108)]
  have A9 := Av.of_arv ab (n := 1) rfl
  exact Walk.aret d_method_3_code_34 rfl rfl rfl ⟨_, t, rfl, e1, e2, e3, A9.congr (fun i hi => by match i, hi with | 0, _ => rfl)⟩ (fun _ q => q) (Nat.le_of_ble_eq_true rfl) (Nat.le_of_ble_eq_true rfl)
set_option maxRecDepth 65536 in
set_option maxHeartbeats 40000000 in
theorem c_build2 {Z : State} {a0 : Array Value} (hw : ∀ d ∈ tables_1, d.before a0 Z = true) {h : Heap} {Ts : TsT} {Li : LiT} (a b c : Int32) (z : Int32) (hz : ¬ z = 0) (O2 : Sta Z Z.heap "java/lang/String" "COMPACT_STRINGS" "Z" (.int z)) (hcw : Jvm.Lit.compactW.before a0 Z = true) (hTs : Ts = some []) (hh : Jvm.Lit.constHeld Z "java/lang/String" 7) (ra : ¬ a < 0 ∧ ¬ (255 : Int32) < a) (rb : ¬ b < 0 ∧ ¬ (255 : Int32) < b) :
    Con Z (⟨"com/example/cubeset/cubeset/sql/SessionSettingMayChangeReadingOfPinLaw", "build", "(ICCC)Ljava/lang/String;"⟩ : MethodName) method_3_code 4 (some (.object "java/lang/String")) ({ frames := 4, cells := 4, slots := 10, locals := 66 } : Room) [(.int (2 : Int32)), (.int a), (.int b), (.int c)] h Ts Li (noW) (fun v h' Ts' Li' => ∃ x t, v = some (.ref x) ∧ Exa Z h' x "java/lang/String" ∧ Fld Z h' x "java/lang/String" "coder" "B" (.int 0) ∧ Fld Z h' x "java/lang/String" "value" "[B" (.ref t) ∧ Av Z h' t .byte 2 (fun i => .int (([a, b] : List Int32).getD i 0).toInt8.toInt32)) := by
  refine Con.of (ws := Fw h noW) (Ls := #[.val (.int (2 : Int32)), .val (.int a), .val (.int b), .val (.int c)]) (plainFor_of_name pn3) (fun m => by first | rfl | (simp [entryFrame, mkF, argsToLocals, Value.category]; done)) (fun E0 => ?_)
  have hws : ∀ d ∈ StrChars.Road.words, d.before a0 Z = true := fun d hd => hw d ((by decide +kernel : ∀ d ∈ StrChars.Road.words, d ∈ tables_1) d hd)
  refine Walk.iloadN (pc' := 1) d_method_3_code_0 rfl ?_
  refine Walk.ifYes (pc' := 15) d_method_3_code_1 (XT.i0_ne_t (by decide)) ?_
  refine Walk.iloadN (pc' := 16) d_method_3_code_15 rfl ?_
  refine Walk.iconst (pc' := 17) (1 : Int32) d_method_3_code_16 rfl ?_
  refine Walk.icYes (pc' := 35) d_method_3_code_17 (XT.ii_ne_t (by decide)) ?_
  refine Walk.iloadN (pc' := 36) d_method_3_code_35 rfl ?_
  refine Walk.iconst (pc' := 37) (2 : Int32) d_method_3_code_36 rfl ?_
  refine Walk.icNo (pc' := 40) d_method_3_code_37 (XT.ii_ne_f rfl) ?_
  refine Walk.newO (pc' := 43) (wd10 hw) (wd11 hw) (wd12 hw) d_method_3_code_40 (by decide) (by decide) (fun h134 x136 g137 g138 g139 K135 E140 D141 => ?_)
  have F142 : Fld Z h134 x136 "java/lang/String" "value" "[B" .null := D141 (Or.inr (wd39 hw)) (ty := (.array .byte)) (by decide)
  have F143 : Fld Z h134 x136 "java/lang/String" "coder" "B" (.int (0 : Int32)) := D141 (Or.inr (wd37 hw)) (ty := .byte) (by decide)
  refine Walk.dup (pc' := 44) d_method_3_code_43 rfl ?_
  refine Walk.iconst (pc' := 45) (2 : Int32) d_method_3_code_44 rfl ?_
  refine Walk.newA (pc' := 47) (aty := .char) (cap := 2) (wd13 hw) d_method_3_code_45 (by decide) (by decide) (by decide) (by decide) (by decide) (fun h144 x146 g147 g148 g149 K145 A150 R151 => ?_)
  refine Walk.dup (pc' := 48) d_method_3_code_47 rfl ?_
  refine Walk.iconst (pc' := 49) (0 : Int32) d_method_3_code_48 rfl ?_
  refine Walk.iloadN (pc' := 50) d_method_3_code_49 rfl ?_
  refine Walk.castore (pc' := 51) (i := 0) A150 d_method_3_code_50 (by decide) rfl (by decide) g149 (Fw.fresh g148) (fun h152 K153 A154 Wr155 => ?_)
  refine Walk.dup (pc' := 52) d_method_3_code_51 rfl ?_
  refine Walk.iconst (pc' := 53) (1 : Int32) d_method_3_code_52 rfl ?_
  refine Walk.iloadN (pc' := 54) d_method_3_code_53 rfl ?_
  refine Walk.castore (pc' := 55) (i := 1) A154 d_method_3_code_54 (by decide) rfl (by decide) g149 (Fw.fresh g148) (fun h156 K157 A158 Wr159 => ?_)
  obtain ⟨kc, ac⟩ := Av.arv A158 (z := 2) (by decide) rfl (vs := ([a, b] : List Int32).map Value.int) (d := .int 0) (fun i hi => by match i, hi with | 0, _ => exact congrArg Value.int (own_nar_rng ra).symm | 1, _ => exact congrArg Value.int (own_nar_rng rb).symm) (fun i hi => by match i, hi with | 0, _ => exact fits_nar_char _ | 1, _ => exact fits_nar_char _)
  refine Walk.old fun E9 => ?_
  refine Walk.callI (pc' := 58) (a := x136) (Wd := 1) (as := [(.ref x146)]) (rest := [(.ref x136)]) (wd14 hw) (wd15 hw) (wd16 hw) (own_newStr (Wd := 1) hws (wd11 hw) (((E140.kq K145).kq K153).kq K157) (((F142.kq K145 (fun q => q)).kq K153 (nw (ltne E140.lt g147))).kq K157 (nw (ltne E140.lt g147))) (((F143.kq K145 (fun q => q)).kq K153 (nw (ltne E140.lt g147))).kq K157 (nw (ltne E140.lt g147))) ac O2 hz rfl (Nat.le_of_ble_eq_true rfl) (Nat.le_of_ble_eq_true rfl) (fun q hq => by simp only [List.mem_cons, List.not_mem_nil, or_false] at hq; rcases hq with rfl | rfl; all_goals first | exact ra.2 | exact rb.2) (by decide) (by decide) g139 E9) (hlen := lenOf pd8 rfl) (hd := d_method_3_code_55) (hst := rfl) (hW := Nat.le_of_eq rfl) (hsz := rfl) (hc1 := Nat.le_of_ble_eq_true rfl) (hl1 := Nat.le_of_ble_eq_true rfl) (hv := (Fw.up (fun y q => Or.inl (q ▸ g138)))) (kk := fun v160 h164 Ts161 Li162 q163 K165 => ?_)
  obtain ⟨⟨rfl, rfl, rfl⟩, t, gt, e1, e3, e2, ⟨kb, ab⟩, -⟩ := q163
  show Walk _ _ _ _ _ _ _ _ _ _ _ _ _ _ 3 8 58 _ [(.ref x136)]
  have A9 := Av.of_arv ab (n := 2) rfl
  exact Walk.aret d_method_3_code_58 rfl rfl rfl ⟨_, t, rfl, e1, e2, e3, A9.congr (fun i hi => by match i, hi with | 0, _ => rfl | 1, _ => rfl)⟩ (fun _ q => q) (Nat.le_of_ble_eq_true rfl) (Nat.le_of_ble_eq_true rfl)
set_option maxRecDepth 65536 in
set_option maxHeartbeats 40000000 in
theorem c_build3 {Z : State} {a0 : Array Value} (hw : ∀ d ∈ tables_1, d.before a0 Z = true) {h : Heap} {Ts : TsT} {Li : LiT} (a b c : Int32) (z : Int32) (hz : ¬ z = 0) (O2 : Sta Z Z.heap "java/lang/String" "COMPACT_STRINGS" "Z" (.int z)) (hcw : Jvm.Lit.compactW.before a0 Z = true) (hTs : Ts = some []) (hh : Jvm.Lit.constHeld Z "java/lang/String" 7) (ra : ¬ a < 0 ∧ ¬ (255 : Int32) < a) (rb : ¬ b < 0 ∧ ¬ (255 : Int32) < b) (rc : ¬ c < 0 ∧ ¬ (255 : Int32) < c) :
    Con Z (⟨"com/example/cubeset/cubeset/sql/SessionSettingMayChangeReadingOfPinLaw", "build", "(ICCC)Ljava/lang/String;"⟩ : MethodName) method_3_code 4 (some (.object "java/lang/String")) ({ frames := 4, cells := 4, slots := 10, locals := 66 } : Room) [(.int (3 : Int32)), (.int a), (.int b), (.int c)] h Ts Li (noW) (fun v h' Ts' Li' => ∃ x t, v = some (.ref x) ∧ Exa Z h' x "java/lang/String" ∧ Fld Z h' x "java/lang/String" "coder" "B" (.int 0) ∧ Fld Z h' x "java/lang/String" "value" "[B" (.ref t) ∧ Av Z h' t .byte 3 (fun i => .int (([a, b, c] : List Int32).getD i 0).toInt8.toInt32)) := by
  refine Con.of (ws := Fw h noW) (Ls := #[.val (.int (3 : Int32)), .val (.int a), .val (.int b), .val (.int c)]) (plainFor_of_name pn3) (fun m => by first | rfl | (simp [entryFrame, mkF, argsToLocals, Value.category]; done)) (fun E0 => ?_)
  have hws : ∀ d ∈ StrChars.Road.words, d.before a0 Z = true := fun d hd => hw d ((by decide +kernel : ∀ d ∈ StrChars.Road.words, d ∈ tables_1) d hd)
  refine Walk.iloadN (pc' := 1) d_method_3_code_0 rfl ?_
  refine Walk.ifYes (pc' := 15) d_method_3_code_1 (XT.i0_ne_t (by decide)) ?_
  refine Walk.iloadN (pc' := 16) d_method_3_code_15 rfl ?_
  refine Walk.iconst (pc' := 17) (1 : Int32) d_method_3_code_16 rfl ?_
  refine Walk.icYes (pc' := 35) d_method_3_code_17 (XT.ii_ne_t (by decide)) ?_
  refine Walk.iloadN (pc' := 36) d_method_3_code_35 rfl ?_
  refine Walk.iconst (pc' := 37) (2 : Int32) d_method_3_code_36 rfl ?_
  refine Walk.icYes (pc' := 59) d_method_3_code_37 (XT.ii_ne_t (by decide)) ?_
  refine Walk.newO (pc' := 62) (wd10 hw) (wd11 hw) (wd12 hw) d_method_3_code_59 (by decide) (by decide) (fun h166 x168 g169 g170 g171 K167 E172 D173 => ?_)
  have F174 : Fld Z h166 x168 "java/lang/String" "value" "[B" .null := D173 (Or.inr (wd39 hw)) (ty := (.array .byte)) (by decide)
  have F175 : Fld Z h166 x168 "java/lang/String" "coder" "B" (.int (0 : Int32)) := D173 (Or.inr (wd37 hw)) (ty := .byte) (by decide)
  refine Walk.dup (pc' := 63) d_method_3_code_62 rfl ?_
  refine Walk.iconst (pc' := 64) (3 : Int32) d_method_3_code_63 rfl ?_
  refine Walk.newA (pc' := 66) (aty := .char) (cap := 3) (wd13 hw) d_method_3_code_64 (by decide) (by decide) (by decide) (by decide) (by decide) (fun h176 x178 g179 g180 g181 K177 A182 R183 => ?_)
  refine Walk.dup (pc' := 67) d_method_3_code_66 rfl ?_
  refine Walk.iconst (pc' := 68) (0 : Int32) d_method_3_code_67 rfl ?_
  refine Walk.iloadN (pc' := 69) d_method_3_code_68 rfl ?_
  refine Walk.castore (pc' := 70) (i := 0) A182 d_method_3_code_69 (by decide) rfl (by decide) g181 (Fw.fresh g180) (fun h184 K185 A186 Wr187 => ?_)
  refine Walk.dup (pc' := 71) d_method_3_code_70 rfl ?_
  refine Walk.iconst (pc' := 72) (1 : Int32) d_method_3_code_71 rfl ?_
  refine Walk.iloadN (pc' := 73) d_method_3_code_72 rfl ?_
  refine Walk.castore (pc' := 74) (i := 1) A186 d_method_3_code_73 (by decide) rfl (by decide) g181 (Fw.fresh g180) (fun h188 K189 A190 Wr191 => ?_)
  refine Walk.dup (pc' := 75) d_method_3_code_74 rfl ?_
  refine Walk.iconst (pc' := 76) (2 : Int32) d_method_3_code_75 rfl ?_
  refine Walk.iloadN (pc' := 77) d_method_3_code_76 rfl ?_
  refine Walk.castore (pc' := 78) (i := 2) A190 d_method_3_code_77 (by decide) rfl (by decide) g181 (Fw.fresh g180) (fun h192 K193 A194 Wr195 => ?_)
  obtain ⟨kc, ac⟩ := Av.arv A194 (z := 3) (by decide) rfl (vs := ([a, b, c] : List Int32).map Value.int) (d := .int 0) (fun i hi => by match i, hi with | 0, _ => exact congrArg Value.int (own_nar_rng ra).symm | 1, _ => exact congrArg Value.int (own_nar_rng rb).symm | 2, _ => exact congrArg Value.int (own_nar_rng rc).symm) (fun i hi => by match i, hi with | 0, _ => exact fits_nar_char _ | 1, _ => exact fits_nar_char _ | 2, _ => exact fits_nar_char _)
  refine Walk.old fun E9 => ?_
  refine Walk.callI (pc' := 81) (a := x168) (Wd := 1) (as := [(.ref x178)]) (rest := [(.ref x168)]) (wd14 hw) (wd15 hw) (wd16 hw) (own_newStr (Wd := 1) hws (wd11 hw) ((((E172.kq K177).kq K185).kq K189).kq K193) ((((F174.kq K177 (fun q => q)).kq K185 (nw (ltne E172.lt g179))).kq K189 (nw (ltne E172.lt g179))).kq K193 (nw (ltne E172.lt g179))) ((((F175.kq K177 (fun q => q)).kq K185 (nw (ltne E172.lt g179))).kq K189 (nw (ltne E172.lt g179))).kq K193 (nw (ltne E172.lt g179))) ac O2 hz rfl (Nat.le_of_ble_eq_true rfl) (Nat.le_of_ble_eq_true rfl) (fun q hq => by simp only [List.mem_cons, List.not_mem_nil, or_false] at hq; rcases hq with rfl | rfl | rfl; all_goals first | exact ra.2 | exact rb.2 | exact rc.2) (by decide) (by decide) g171 E9) (hlen := lenOf pd8 rfl) (hd := d_method_3_code_78) (hst := rfl) (hW := Nat.le_of_eq rfl) (hsz := rfl) (hc1 := Nat.le_of_ble_eq_true rfl) (hl1 := Nat.le_of_ble_eq_true rfl) (hv := (Fw.up (fun y q => Or.inl (q ▸ g170)))) (kk := fun v196 h200 Ts197 Li198 q199 K201 => ?_)
  obtain ⟨⟨rfl, rfl, rfl⟩, t, gt, e1, e3, e2, ⟨kb, ab⟩, -⟩ := q199
  show Walk _ _ _ _ _ _ _ _ _ _ _ _ _ _ 3 10 81 _ [(.ref x168)]
  have A9 := Av.of_arv ab (n := 3) rfl
  exact Walk.aret d_method_3_code_81 rfl rfl rfl ⟨_, t, rfl, e1, e2, e3, A9.congr (fun i hi => by match i, hi with | 0, _ => rfl | 1, _ => rfl | 2, _ => rfl)⟩ (fun _ q => q) (Nat.le_of_ble_eq_true rfl) (Nat.le_of_ble_eq_true rfl)
set_option maxRecDepth 65536 in
set_option maxHeartbeats 40000000 in
theorem p_law43 {Z : State} {a0 : Array Value} (hw : ∀ d ∈ tables_1, d.before a0 Z = true) {h : Heap} {Ts : TsT} {Li : LiT} (p0 p1 p2 p3 p4 an want : Int32) (s : Addr) (z : Int32) (hz : ¬ z = 0) (O2 : Sta Z Z.heap "java/lang/String" "COMPACT_STRINGS" "Z" (.int z)) (hcw : Jvm.Lit.compactW.before a0 Z = true) (hTs : Ts = some []) (hh : Jvm.Lit.constHeld Z "java/lang/String" 7) (F9 : Fld Z Z.heap s "com/example/cubeset/cubeset/sql/SessionSetting" "character" "C" (.int want)) (hwt : ¬ want < 0 ∧ ¬ (255 : Int32) < want) (E8 : Exa Z Z.heap s "com/example/cubeset/cubeset/sql/SessionSetting") :
    Walk Z "com/example/cubeset/cubeset/sql/SessionSettingMayChangeReadingOfPinLaw" "law" ret code maxLocals room_1 h noW (fun v h' Ts' Li' => v = some (.int 1)) (Fw h noW) Ts Li h 0 0 43 #[.val (.int p0), .val (.int p1), .val (.int p2), .val (.int p3), .val (.int p4), .val (.int an), .val (.ref s), .val (.int want), .unset, .unset, .unset, .unset, .unset, .unset] [] := by
  refine Walk.iloadN (pc' := 44) at_43 rfl ?_
  refine Walk.iconst (pc' := 45) (3 : Int32) at_44 rfl ?_
  refine Walk.iand (pc' := 46) at_45 ?_
  rcases own_and3 p1 with e | e | e | e
  · skip
    rw [show (p1 &&& (3 : Int32)) = 0 from e]
    refine Walk.istore (pc' := 48) (Ls' := #[.val (.int p0), .val (.int p1), .val (.int p2), .val (.int p3), .val (.int p4), .val (.int an), .val (.ref s), .val (.int want), .val (.int (0 : Int32)), .unset, .unset, .unset, .unset, .unset]) at_46 rfl ?_
    refine Walk.iloadN (pc' := 49) at_48 rfl ?_
    refine Walk.callS (pc' := 52) (Wd := 0) (as := [(.int p2)]) (rest := []) (wd3 hw) (wd4 hw) (wd5 hw) (wd6 hw) ((c_pick hw p2).pay (wd6 hw) (wd5 hw) (by decide) (by decide)) (hlen := lenOf pd9 rfl) (hd := at_49) (hst := rfl) (hW := Nat.le_of_eq rfl) (hsz := rfl) (hc1 := Nat.le_of_ble_eq_true rfl) (hl1 := Nat.le_of_ble_eq_true rfl) (hv := Fw.upN) (kk := fun v202 h206 Ts203 Li204 q205 K207 => ?_)
    obtain ⟨rfl, rfl, rfl, rfl⟩ := q205
    show Walk _ _ _ _ _ _ _ _ _ _ _ _ _ _ 0 0 52 _ [(.int (own_pk p2))]
    refine Walk.istore (pc' := 54) (Ls' := #[.val (.int p0), .val (.int p1), .val (.int p2), .val (.int p3), .val (.int p4), .val (.int an), .val (.ref s), .val (.int want), .val (.int (0 : Int32)), .val (.int (own_pk p2)), .unset, .unset, .unset, .unset]) at_52 rfl ?_
    refine Walk.iloadN (pc' := 55) at_54 rfl ?_
    refine Walk.callS (pc' := 58) (Wd := 0) (as := [(.int p3)]) (rest := []) (wd3 hw) (wd4 hw) (wd5 hw) (wd6 hw) ((c_pick hw p3).pay (wd6 hw) (wd5 hw) (by decide) (by decide)) (hlen := lenOf pd9 rfl) (hd := at_55) (hst := rfl) (hW := Nat.le_of_eq rfl) (hsz := rfl) (hc1 := Nat.le_of_ble_eq_true rfl) (hl1 := Nat.le_of_ble_eq_true rfl) (hv := Fw.upN) (kk := fun v208 h212 Ts209 Li210 q211 K213 => ?_)
    obtain ⟨rfl, rfl, rfl, rfl⟩ := q211
    show Walk _ _ _ _ _ _ _ _ _ _ _ _ _ _ 0 0 58 _ [(.int (own_pk p3))]
    refine Walk.istore (pc' := 60) (Ls' := #[.val (.int p0), .val (.int p1), .val (.int p2), .val (.int p3), .val (.int p4), .val (.int an), .val (.ref s), .val (.int want), .val (.int (0 : Int32)), .val (.int (own_pk p2)), .val (.int (own_pk p3)), .unset, .unset, .unset]) at_58 rfl ?_
    refine Walk.iload (pc' := 62) at_60 rfl ?_
    refine Walk.callS (pc' := 65) (Wd := 0) (as := [(.int p4)]) (rest := []) (wd3 hw) (wd4 hw) (wd5 hw) (wd6 hw) ((c_pick hw p4).pay (wd6 hw) (wd5 hw) (by decide) (by decide)) (hlen := lenOf pd9 rfl) (hd := at_62) (hst := rfl) (hW := Nat.le_of_eq rfl) (hsz := rfl) (hc1 := Nat.le_of_ble_eq_true rfl) (hl1 := Nat.le_of_ble_eq_true rfl) (hv := Fw.upN) (kk := fun v214 h218 Ts215 Li216 q217 K219 => ?_)
    obtain ⟨rfl, rfl, rfl, rfl⟩ := q217
    show Walk _ _ _ _ _ _ _ _ _ _ _ _ _ _ 0 0 65 _ [(.int (own_pk p4))]
    refine Walk.istore (pc' := 67) (Ls' := #[.val (.int p0), .val (.int p1), .val (.int p2), .val (.int p3), .val (.int p4), .val (.int an), .val (.ref s), .val (.int want), .val (.int (0 : Int32)), .val (.int (own_pk p2)), .val (.int (own_pk p3)), .val (.int (own_pk p4)), .unset, .unset]) at_65 rfl ?_
    refine Walk.iload (pc' := 69) at_67 rfl ?_
    refine Walk.iload (pc' := 71) at_69 rfl ?_
    refine Walk.iload (pc' := 73) at_71 rfl ?_
    refine Walk.iload (pc' := 75) at_73 rfl ?_
    refine Walk.callS (pc' := 78) (Wd := 0) (as := [(.int (0 : Int32)), (.int (own_pk p2)), (.int (own_pk p3)), (.int (own_pk p4))]) (rest := []) (wd7 hw) (wd8 hw) (wd5 hw) (wd9 hw) ((c_build0 hw (own_pk p2) (own_pk p3) (own_pk p4) z hz O2 hcw hTs hh ).pay (wd9 hw) (wd5 hw) (by decide) (by decide)) (hlen := lenOf pd10 rfl) (hd := at_75) (hst := rfl) (hW := Nat.le_of_eq rfl) (hsz := rfl) (hc1 := Nat.le_of_ble_eq_true rfl) (hl1 := Nat.le_of_ble_eq_true rfl) (hv := Fw.upN) (kk := fun v220 h224 Ts221 Li222 q223 K225 => ?_)
    obtain ⟨x, t, rfl, e1, e2, e3, A9⟩ := q223
    show Walk _ _ _ _ _ _ _ _ _ _ _ _ _ _ 4 10 78 _ [(.ref x)]
    refine Walk.astore (pc' := 80) (Ls' := #[.val (.int p0), .val (.int p1), .val (.int p2), .val (.int p3), .val (.int p4), .val (.int an), .val (.ref s), .val (.int want), .val (.int (0 : Int32)), .val (.int (own_pk p2)), .val (.int (own_pk p3)), .val (.int (own_pk p4)), .val (.ref x), .unset]) at_78 rfl rfl ?_
    refine Walk.iload (pc' := 82) at_80 rfl ?_
    refine Walk.iconst (pc' := 83) (1 : Int32) at_82 rfl ?_
    refine Walk.icYes (pc' := 93) at_83 (XT.ii_lt_t (by decide)) ?_
    refine Walk.iload (pc' := 95) at_93 rfl ?_
    refine Walk.iconst (pc' := 96) (2 : Int32) at_95 rfl ?_
    refine Walk.icYes (pc' := 106) at_96 (XT.ii_lt_t (by decide)) ?_
    refine Walk.iload (pc' := 108) at_106 rfl ?_
    refine Walk.iconst (pc' := 109) (3 : Int32) at_108 rfl ?_
    refine Walk.icYes (pc' := 123) at_109 (XT.ii_lt_t (by decide)) ?_
    refine Walk.iconst (pc' := 124) (0 : Int32) at_123 rfl ?_
    refine Walk.istore (pc' := 126) (Ls' := #[.val (.int p0), .val (.int p1), .val (.int p2), .val (.int p3), .val (.int p4), .val (.int an), .val (.ref s), .val (.int want), .val (.int (0 : Int32)), .val (.int (own_pk p2)), .val (.int (own_pk p3)), .val (.int (own_pk p4)), .val (.ref x), .val (.int (0 : Int32))]) at_124 rfl ?_
    refine Walk.aload (pc' := 128) at_126 rfl rfl ?_
    refine Walk.aload (pc' := 130) at_128 rfl rfl ?_
    refine Walk.old fun E9 => ?_
    refine Walk.callV (pc' := 133) (a := s) (Wd := 0) (as := [(.ref x)]) (rest := []) (wd40 hw) (wd41 hw) (wd43 hw) (wd43 hw) (wd42 hw) (E8.ext E9) ((c_may hw want s (F9.ext E9) x t _ 0 (by decide) z hz O2 e1 e2 e3 A9 hwt.1 hwt.2).pay (wd44 hw) (wd1 hw) (by decide) (by decide)) (hlen := lenOf pd11 rfl) (hd := at_130) (hst := rfl) (hW := Nat.le_of_eq rfl) (hsz := rfl) (hc1 := Nat.le_of_ble_eq_true rfl) (hl1 := Nat.le_of_ble_eq_true rfl) (hv := Fw.upN) (kk := fun v226 h230 Ts227 Li228 q229 K231 => ?_)
    obtain ⟨⟨r, rfl, hr1, hr2⟩, rfl, rfl, rfl⟩ := q229
    show Walk _ _ _ _ _ _ _ _ _ _ _ _ _ _ 4 10 133 _ [(.int r)]
    obtain rfl : r = 0 := hr1.elim id fun q => by
      obtain ⟨i, q1, q2⟩ := hr2.mp q
      exact absurd q1 (Nat.not_lt_zero _)
    refine Walk.iload (pc' := 135) at_133 rfl ?_
    refine Walk.icNo (pc' := 138) at_135 (XT.ii_ne_f rfl) ?_
    refine Walk.iconst (pc' := 139) (1 : Int32) at_138 rfl ?_
    refine Walk.goto (pc' := 143) at_139 ?_
    exact Walk.nret at_143 rfl (by simp) rfl (fun _ q => q) (Nat.le_of_ble_eq_true rfl) (Nat.le_of_ble_eq_true rfl)
  · skip
    rw [show (p1 &&& (3 : Int32)) = 1 from e]
    refine Walk.istore (pc' := 48) (Ls' := #[.val (.int p0), .val (.int p1), .val (.int p2), .val (.int p3), .val (.int p4), .val (.int an), .val (.ref s), .val (.int want), .val (.int (1 : Int32)), .unset, .unset, .unset, .unset, .unset]) at_46 rfl ?_
    refine Walk.iloadN (pc' := 49) at_48 rfl ?_
    refine Walk.callS (pc' := 52) (Wd := 0) (as := [(.int p2)]) (rest := []) (wd3 hw) (wd4 hw) (wd5 hw) (wd6 hw) ((c_pick hw p2).pay (wd6 hw) (wd5 hw) (by decide) (by decide)) (hlen := lenOf pd9 rfl) (hd := at_49) (hst := rfl) (hW := Nat.le_of_eq rfl) (hsz := rfl) (hc1 := Nat.le_of_ble_eq_true rfl) (hl1 := Nat.le_of_ble_eq_true rfl) (hv := Fw.upN) (kk := fun v232 h236 Ts233 Li234 q235 K237 => ?_)
    obtain ⟨rfl, rfl, rfl, rfl⟩ := q235
    show Walk _ _ _ _ _ _ _ _ _ _ _ _ _ _ 0 0 52 _ [(.int (own_pk p2))]
    refine Walk.istore (pc' := 54) (Ls' := #[.val (.int p0), .val (.int p1), .val (.int p2), .val (.int p3), .val (.int p4), .val (.int an), .val (.ref s), .val (.int want), .val (.int (1 : Int32)), .val (.int (own_pk p2)), .unset, .unset, .unset, .unset]) at_52 rfl ?_
    refine Walk.iloadN (pc' := 55) at_54 rfl ?_
    refine Walk.callS (pc' := 58) (Wd := 0) (as := [(.int p3)]) (rest := []) (wd3 hw) (wd4 hw) (wd5 hw) (wd6 hw) ((c_pick hw p3).pay (wd6 hw) (wd5 hw) (by decide) (by decide)) (hlen := lenOf pd9 rfl) (hd := at_55) (hst := rfl) (hW := Nat.le_of_eq rfl) (hsz := rfl) (hc1 := Nat.le_of_ble_eq_true rfl) (hl1 := Nat.le_of_ble_eq_true rfl) (hv := Fw.upN) (kk := fun v238 h242 Ts239 Li240 q241 K243 => ?_)
    obtain ⟨rfl, rfl, rfl, rfl⟩ := q241
    show Walk _ _ _ _ _ _ _ _ _ _ _ _ _ _ 0 0 58 _ [(.int (own_pk p3))]
    refine Walk.istore (pc' := 60) (Ls' := #[.val (.int p0), .val (.int p1), .val (.int p2), .val (.int p3), .val (.int p4), .val (.int an), .val (.ref s), .val (.int want), .val (.int (1 : Int32)), .val (.int (own_pk p2)), .val (.int (own_pk p3)), .unset, .unset, .unset]) at_58 rfl ?_
    refine Walk.iload (pc' := 62) at_60 rfl ?_
    refine Walk.callS (pc' := 65) (Wd := 0) (as := [(.int p4)]) (rest := []) (wd3 hw) (wd4 hw) (wd5 hw) (wd6 hw) ((c_pick hw p4).pay (wd6 hw) (wd5 hw) (by decide) (by decide)) (hlen := lenOf pd9 rfl) (hd := at_62) (hst := rfl) (hW := Nat.le_of_eq rfl) (hsz := rfl) (hc1 := Nat.le_of_ble_eq_true rfl) (hl1 := Nat.le_of_ble_eq_true rfl) (hv := Fw.upN) (kk := fun v244 h248 Ts245 Li246 q247 K249 => ?_)
    obtain ⟨rfl, rfl, rfl, rfl⟩ := q247
    show Walk _ _ _ _ _ _ _ _ _ _ _ _ _ _ 0 0 65 _ [(.int (own_pk p4))]
    refine Walk.istore (pc' := 67) (Ls' := #[.val (.int p0), .val (.int p1), .val (.int p2), .val (.int p3), .val (.int p4), .val (.int an), .val (.ref s), .val (.int want), .val (.int (1 : Int32)), .val (.int (own_pk p2)), .val (.int (own_pk p3)), .val (.int (own_pk p4)), .unset, .unset]) at_65 rfl ?_
    refine Walk.iload (pc' := 69) at_67 rfl ?_
    refine Walk.iload (pc' := 71) at_69 rfl ?_
    refine Walk.iload (pc' := 73) at_71 rfl ?_
    refine Walk.iload (pc' := 75) at_73 rfl ?_
    refine Walk.callS (pc' := 78) (Wd := 0) (as := [(.int (1 : Int32)), (.int (own_pk p2)), (.int (own_pk p3)), (.int (own_pk p4))]) (rest := []) (wd7 hw) (wd8 hw) (wd5 hw) (wd9 hw) ((c_build1 hw (own_pk p2) (own_pk p3) (own_pk p4) z hz O2 hcw hTs hh (own_pk_rng p2)).pay (wd9 hw) (wd5 hw) (by decide) (by decide)) (hlen := lenOf pd10 rfl) (hd := at_75) (hst := rfl) (hW := Nat.le_of_eq rfl) (hsz := rfl) (hc1 := Nat.le_of_ble_eq_true rfl) (hl1 := Nat.le_of_ble_eq_true rfl) (hv := Fw.upN) (kk := fun v250 h254 Ts251 Li252 q253 K255 => ?_)
    obtain ⟨x, t, rfl, e1, e2, e3, A9⟩ := q253
    show Walk _ _ _ _ _ _ _ _ _ _ _ _ _ _ 4 10 78 _ [(.ref x)]
    refine Walk.astore (pc' := 80) (Ls' := #[.val (.int p0), .val (.int p1), .val (.int p2), .val (.int p3), .val (.int p4), .val (.int an), .val (.ref s), .val (.int want), .val (.int (1 : Int32)), .val (.int (own_pk p2)), .val (.int (own_pk p3)), .val (.int (own_pk p4)), .val (.ref x), .unset]) at_78 rfl rfl ?_
    refine Walk.iload (pc' := 82) at_80 rfl ?_
    refine Walk.iconst (pc' := 83) (1 : Int32) at_82 rfl ?_
    refine Walk.icNo (pc' := 86) at_83 (XT.ii_lt_f (by decide)) ?_
    refine Walk.iload (pc' := 88) at_86 rfl ?_
    refine Walk.iload (pc' := 90) at_88 rfl ?_
    by_cases w0 : (own_pk p2) = want
    · skip
      refine Walk.icYes (pc' := 119) at_90 (XT.ii_eq_t w0) ?_
      refine Walk.iconst (pc' := 120) (1 : Int32) at_119 rfl ?_
      refine Walk.goto (pc' := 124) at_120 ?_
      refine Walk.istore (pc' := 126) (Ls' := #[.val (.int p0), .val (.int p1), .val (.int p2), .val (.int p3), .val (.int p4), .val (.int an), .val (.ref s), .val (.int want), .val (.int (1 : Int32)), .val (.int (own_pk p2)), .val (.int (own_pk p3)), .val (.int (own_pk p4)), .val (.ref x), .val (.int (1 : Int32))]) at_124 rfl ?_
      refine Walk.old fun E9 => ?_
      refine Walk.aload (pc' := 128) at_126 rfl rfl ?_
      refine Walk.aload (pc' := 130) at_128 rfl rfl ?_
      refine Walk.callV (pc' := 133) (a := s) (Wd := 0) (as := [(.ref x)]) (rest := []) (wd40 hw) (wd41 hw) (wd43 hw) (wd43 hw) (wd42 hw) (E8.ext E9) ((c_may hw want s (F9.ext E9) x t _ 1 (by decide) z hz O2 e1 e2 e3 A9 hwt.1 hwt.2).pay (wd44 hw) (wd1 hw) (by decide) (by decide)) (hlen := lenOf pd11 rfl) (hd := at_130) (hst := rfl) (hW := Nat.le_of_eq rfl) (hsz := rfl) (hc1 := Nat.le_of_ble_eq_true rfl) (hl1 := Nat.le_of_ble_eq_true rfl) (hv := Fw.upN) (kk := fun v256 h260 Ts257 Li258 q259 K261 => ?_)
      obtain ⟨⟨r, rfl, hr1, hr2⟩, rfl, rfl, rfl⟩ := q259
      show Walk _ _ _ _ _ _ _ _ _ _ _ _ _ _ 4 10 133 _ [(.int r)]
      obtain rfl : r = 1 := hr2.mpr ⟨0, by decide, congrArg (fun q : Int32 => q.toInt8.toInt32) w0⟩
      refine Walk.iload (pc' := 135) at_133 rfl ?_
      refine Walk.icNo (pc' := 138) at_135 (XT.ii_ne_f rfl) ?_
      refine Walk.iconst (pc' := 139) (1 : Int32) at_138 rfl ?_
      refine Walk.goto (pc' := 143) at_139 ?_
      exact Walk.nret at_143 rfl (by simp) rfl (fun _ q => q) (Nat.le_of_ble_eq_true rfl) (Nat.le_of_ble_eq_true rfl)
    · skip
      refine Walk.icNo (pc' := 93) at_90 (XT.ii_eq_f w0) ?_
      refine Walk.iload (pc' := 95) at_93 rfl ?_
      refine Walk.iconst (pc' := 96) (2 : Int32) at_95 rfl ?_
      refine Walk.icYes (pc' := 106) at_96 (XT.ii_lt_t (by decide)) ?_
      refine Walk.iload (pc' := 108) at_106 rfl ?_
      refine Walk.iconst (pc' := 109) (3 : Int32) at_108 rfl ?_
      refine Walk.icYes (pc' := 123) at_109 (XT.ii_lt_t (by decide)) ?_
      refine Walk.iconst (pc' := 124) (0 : Int32) at_123 rfl ?_
      refine Walk.istore (pc' := 126) (Ls' := #[.val (.int p0), .val (.int p1), .val (.int p2), .val (.int p3), .val (.int p4), .val (.int an), .val (.ref s), .val (.int want), .val (.int (1 : Int32)), .val (.int (own_pk p2)), .val (.int (own_pk p3)), .val (.int (own_pk p4)), .val (.ref x), .val (.int (0 : Int32))]) at_124 rfl ?_
      refine Walk.aload (pc' := 128) at_126 rfl rfl ?_
      refine Walk.aload (pc' := 130) at_128 rfl rfl ?_
      refine Walk.old fun E9 => ?_
      refine Walk.callV (pc' := 133) (a := s) (Wd := 0) (as := [(.ref x)]) (rest := []) (wd40 hw) (wd41 hw) (wd43 hw) (wd43 hw) (wd42 hw) (E8.ext E9) ((c_may hw want s (F9.ext E9) x t _ 1 (by decide) z hz O2 e1 e2 e3 A9 hwt.1 hwt.2).pay (wd44 hw) (wd1 hw) (by decide) (by decide)) (hlen := lenOf pd11 rfl) (hd := at_130) (hst := rfl) (hW := Nat.le_of_eq rfl) (hsz := rfl) (hc1 := Nat.le_of_ble_eq_true rfl) (hl1 := Nat.le_of_ble_eq_true rfl) (hv := Fw.upN) (kk := fun v262 h266 Ts263 Li264 q265 K267 => ?_)
      obtain ⟨⟨r, rfl, hr1, hr2⟩, rfl, rfl, rfl⟩ := q265
      show Walk _ _ _ _ _ _ _ _ _ _ _ _ _ _ 4 10 133 _ [(.int r)]
      obtain rfl : r = 0 := hr1.elim id fun q => by
        obtain ⟨i, q1, q2⟩ := hr2.mp q
        match i, q1 with
        | 0, _ => exact absurd (own_lo8 (own_pk_rng p2) hwt q2) w0
      refine Walk.iload (pc' := 135) at_133 rfl ?_
      refine Walk.icNo (pc' := 138) at_135 (XT.ii_ne_f rfl) ?_
      refine Walk.iconst (pc' := 139) (1 : Int32) at_138 rfl ?_
      refine Walk.goto (pc' := 143) at_139 ?_
      exact Walk.nret at_143 rfl (by simp) rfl (fun _ q => q) (Nat.le_of_ble_eq_true rfl) (Nat.le_of_ble_eq_true rfl)
  · skip
    rw [show (p1 &&& (3 : Int32)) = 2 from e]
    refine Walk.istore (pc' := 48) (Ls' := #[.val (.int p0), .val (.int p1), .val (.int p2), .val (.int p3), .val (.int p4), .val (.int an), .val (.ref s), .val (.int want), .val (.int (2 : Int32)), .unset, .unset, .unset, .unset, .unset]) at_46 rfl ?_
    refine Walk.iloadN (pc' := 49) at_48 rfl ?_
    refine Walk.callS (pc' := 52) (Wd := 0) (as := [(.int p2)]) (rest := []) (wd3 hw) (wd4 hw) (wd5 hw) (wd6 hw) ((c_pick hw p2).pay (wd6 hw) (wd5 hw) (by decide) (by decide)) (hlen := lenOf pd9 rfl) (hd := at_49) (hst := rfl) (hW := Nat.le_of_eq rfl) (hsz := rfl) (hc1 := Nat.le_of_ble_eq_true rfl) (hl1 := Nat.le_of_ble_eq_true rfl) (hv := Fw.upN) (kk := fun v268 h272 Ts269 Li270 q271 K273 => ?_)
    obtain ⟨rfl, rfl, rfl, rfl⟩ := q271
    show Walk _ _ _ _ _ _ _ _ _ _ _ _ _ _ 0 0 52 _ [(.int (own_pk p2))]
    refine Walk.istore (pc' := 54) (Ls' := #[.val (.int p0), .val (.int p1), .val (.int p2), .val (.int p3), .val (.int p4), .val (.int an), .val (.ref s), .val (.int want), .val (.int (2 : Int32)), .val (.int (own_pk p2)), .unset, .unset, .unset, .unset]) at_52 rfl ?_
    refine Walk.iloadN (pc' := 55) at_54 rfl ?_
    refine Walk.callS (pc' := 58) (Wd := 0) (as := [(.int p3)]) (rest := []) (wd3 hw) (wd4 hw) (wd5 hw) (wd6 hw) ((c_pick hw p3).pay (wd6 hw) (wd5 hw) (by decide) (by decide)) (hlen := lenOf pd9 rfl) (hd := at_55) (hst := rfl) (hW := Nat.le_of_eq rfl) (hsz := rfl) (hc1 := Nat.le_of_ble_eq_true rfl) (hl1 := Nat.le_of_ble_eq_true rfl) (hv := Fw.upN) (kk := fun v274 h278 Ts275 Li276 q277 K279 => ?_)
    obtain ⟨rfl, rfl, rfl, rfl⟩ := q277
    show Walk _ _ _ _ _ _ _ _ _ _ _ _ _ _ 0 0 58 _ [(.int (own_pk p3))]
    refine Walk.istore (pc' := 60) (Ls' := #[.val (.int p0), .val (.int p1), .val (.int p2), .val (.int p3), .val (.int p4), .val (.int an), .val (.ref s), .val (.int want), .val (.int (2 : Int32)), .val (.int (own_pk p2)), .val (.int (own_pk p3)), .unset, .unset, .unset]) at_58 rfl ?_
    refine Walk.iload (pc' := 62) at_60 rfl ?_
    refine Walk.callS (pc' := 65) (Wd := 0) (as := [(.int p4)]) (rest := []) (wd3 hw) (wd4 hw) (wd5 hw) (wd6 hw) ((c_pick hw p4).pay (wd6 hw) (wd5 hw) (by decide) (by decide)) (hlen := lenOf pd9 rfl) (hd := at_62) (hst := rfl) (hW := Nat.le_of_eq rfl) (hsz := rfl) (hc1 := Nat.le_of_ble_eq_true rfl) (hl1 := Nat.le_of_ble_eq_true rfl) (hv := Fw.upN) (kk := fun v280 h284 Ts281 Li282 q283 K285 => ?_)
    obtain ⟨rfl, rfl, rfl, rfl⟩ := q283
    show Walk _ _ _ _ _ _ _ _ _ _ _ _ _ _ 0 0 65 _ [(.int (own_pk p4))]
    refine Walk.istore (pc' := 67) (Ls' := #[.val (.int p0), .val (.int p1), .val (.int p2), .val (.int p3), .val (.int p4), .val (.int an), .val (.ref s), .val (.int want), .val (.int (2 : Int32)), .val (.int (own_pk p2)), .val (.int (own_pk p3)), .val (.int (own_pk p4)), .unset, .unset]) at_65 rfl ?_
    refine Walk.iload (pc' := 69) at_67 rfl ?_
    refine Walk.iload (pc' := 71) at_69 rfl ?_
    refine Walk.iload (pc' := 73) at_71 rfl ?_
    refine Walk.iload (pc' := 75) at_73 rfl ?_
    refine Walk.callS (pc' := 78) (Wd := 0) (as := [(.int (2 : Int32)), (.int (own_pk p2)), (.int (own_pk p3)), (.int (own_pk p4))]) (rest := []) (wd7 hw) (wd8 hw) (wd5 hw) (wd9 hw) ((c_build2 hw (own_pk p2) (own_pk p3) (own_pk p4) z hz O2 hcw hTs hh (own_pk_rng p2) (own_pk_rng p3)).pay (wd9 hw) (wd5 hw) (by decide) (by decide)) (hlen := lenOf pd10 rfl) (hd := at_75) (hst := rfl) (hW := Nat.le_of_eq rfl) (hsz := rfl) (hc1 := Nat.le_of_ble_eq_true rfl) (hl1 := Nat.le_of_ble_eq_true rfl) (hv := Fw.upN) (kk := fun v286 h290 Ts287 Li288 q289 K291 => ?_)
    obtain ⟨x, t, rfl, e1, e2, e3, A9⟩ := q289
    show Walk _ _ _ _ _ _ _ _ _ _ _ _ _ _ 4 10 78 _ [(.ref x)]
    refine Walk.astore (pc' := 80) (Ls' := #[.val (.int p0), .val (.int p1), .val (.int p2), .val (.int p3), .val (.int p4), .val (.int an), .val (.ref s), .val (.int want), .val (.int (2 : Int32)), .val (.int (own_pk p2)), .val (.int (own_pk p3)), .val (.int (own_pk p4)), .val (.ref x), .unset]) at_78 rfl rfl ?_
    refine Walk.iload (pc' := 82) at_80 rfl ?_
    refine Walk.iconst (pc' := 83) (1 : Int32) at_82 rfl ?_
    refine Walk.icNo (pc' := 86) at_83 (XT.ii_lt_f (by decide)) ?_
    refine Walk.iload (pc' := 88) at_86 rfl ?_
    refine Walk.iload (pc' := 90) at_88 rfl ?_
    by_cases w0 : (own_pk p2) = want
    · skip
      refine Walk.icYes (pc' := 119) at_90 (XT.ii_eq_t w0) ?_
      refine Walk.iconst (pc' := 120) (1 : Int32) at_119 rfl ?_
      refine Walk.goto (pc' := 124) at_120 ?_
      refine Walk.istore (pc' := 126) (Ls' := #[.val (.int p0), .val (.int p1), .val (.int p2), .val (.int p3), .val (.int p4), .val (.int an), .val (.ref s), .val (.int want), .val (.int (2 : Int32)), .val (.int (own_pk p2)), .val (.int (own_pk p3)), .val (.int (own_pk p4)), .val (.ref x), .val (.int (1 : Int32))]) at_124 rfl ?_
      refine Walk.old fun E9 => ?_
      refine Walk.aload (pc' := 128) at_126 rfl rfl ?_
      refine Walk.aload (pc' := 130) at_128 rfl rfl ?_
      refine Walk.callV (pc' := 133) (a := s) (Wd := 0) (as := [(.ref x)]) (rest := []) (wd40 hw) (wd41 hw) (wd43 hw) (wd43 hw) (wd42 hw) (E8.ext E9) ((c_may hw want s (F9.ext E9) x t _ 2 (by decide) z hz O2 e1 e2 e3 A9 hwt.1 hwt.2).pay (wd44 hw) (wd1 hw) (by decide) (by decide)) (hlen := lenOf pd11 rfl) (hd := at_130) (hst := rfl) (hW := Nat.le_of_eq rfl) (hsz := rfl) (hc1 := Nat.le_of_ble_eq_true rfl) (hl1 := Nat.le_of_ble_eq_true rfl) (hv := Fw.upN) (kk := fun v292 h296 Ts293 Li294 q295 K297 => ?_)
      obtain ⟨⟨r, rfl, hr1, hr2⟩, rfl, rfl, rfl⟩ := q295
      show Walk _ _ _ _ _ _ _ _ _ _ _ _ _ _ 4 10 133 _ [(.int r)]
      obtain rfl : r = 1 := hr2.mpr ⟨0, by decide, congrArg (fun q : Int32 => q.toInt8.toInt32) w0⟩
      refine Walk.iload (pc' := 135) at_133 rfl ?_
      refine Walk.icNo (pc' := 138) at_135 (XT.ii_ne_f rfl) ?_
      refine Walk.iconst (pc' := 139) (1 : Int32) at_138 rfl ?_
      refine Walk.goto (pc' := 143) at_139 ?_
      exact Walk.nret at_143 rfl (by simp) rfl (fun _ q => q) (Nat.le_of_ble_eq_true rfl) (Nat.le_of_ble_eq_true rfl)
    · skip
      refine Walk.icNo (pc' := 93) at_90 (XT.ii_eq_f w0) ?_
      refine Walk.iload (pc' := 95) at_93 rfl ?_
      refine Walk.iconst (pc' := 96) (2 : Int32) at_95 rfl ?_
      refine Walk.icNo (pc' := 99) at_96 (XT.ii_lt_f (by decide)) ?_
      refine Walk.iload (pc' := 101) at_99 rfl ?_
      refine Walk.iload (pc' := 103) at_101 rfl ?_
      by_cases w1 : (own_pk p3) = want
      · skip
        refine Walk.icYes (pc' := 119) at_103 (XT.ii_eq_t w1) ?_
        refine Walk.iconst (pc' := 120) (1 : Int32) at_119 rfl ?_
        refine Walk.goto (pc' := 124) at_120 ?_
        refine Walk.istore (pc' := 126) (Ls' := #[.val (.int p0), .val (.int p1), .val (.int p2), .val (.int p3), .val (.int p4), .val (.int an), .val (.ref s), .val (.int want), .val (.int (2 : Int32)), .val (.int (own_pk p2)), .val (.int (own_pk p3)), .val (.int (own_pk p4)), .val (.ref x), .val (.int (1 : Int32))]) at_124 rfl ?_
        refine Walk.old fun E9 => ?_
        refine Walk.aload (pc' := 128) at_126 rfl rfl ?_
        refine Walk.aload (pc' := 130) at_128 rfl rfl ?_
        refine Walk.callV (pc' := 133) (a := s) (Wd := 0) (as := [(.ref x)]) (rest := []) (wd40 hw) (wd41 hw) (wd43 hw) (wd43 hw) (wd42 hw) (E8.ext E9) ((c_may hw want s (F9.ext E9) x t _ 2 (by decide) z hz O2 e1 e2 e3 A9 hwt.1 hwt.2).pay (wd44 hw) (wd1 hw) (by decide) (by decide)) (hlen := lenOf pd11 rfl) (hd := at_130) (hst := rfl) (hW := Nat.le_of_eq rfl) (hsz := rfl) (hc1 := Nat.le_of_ble_eq_true rfl) (hl1 := Nat.le_of_ble_eq_true rfl) (hv := Fw.upN) (kk := fun v298 h302 Ts299 Li300 q301 K303 => ?_)
        obtain ⟨⟨r, rfl, hr1, hr2⟩, rfl, rfl, rfl⟩ := q301
        show Walk _ _ _ _ _ _ _ _ _ _ _ _ _ _ 4 10 133 _ [(.int r)]
        obtain rfl : r = 1 := hr2.mpr ⟨1, by decide, congrArg (fun q : Int32 => q.toInt8.toInt32) w1⟩
        refine Walk.iload (pc' := 135) at_133 rfl ?_
        refine Walk.icNo (pc' := 138) at_135 (XT.ii_ne_f rfl) ?_
        refine Walk.iconst (pc' := 139) (1 : Int32) at_138 rfl ?_
        refine Walk.goto (pc' := 143) at_139 ?_
        exact Walk.nret at_143 rfl (by simp) rfl (fun _ q => q) (Nat.le_of_ble_eq_true rfl) (Nat.le_of_ble_eq_true rfl)
      · skip
        refine Walk.icNo (pc' := 106) at_103 (XT.ii_eq_f w1) ?_
        refine Walk.iload (pc' := 108) at_106 rfl ?_
        refine Walk.iconst (pc' := 109) (3 : Int32) at_108 rfl ?_
        refine Walk.icYes (pc' := 123) at_109 (XT.ii_lt_t (by decide)) ?_
        refine Walk.iconst (pc' := 124) (0 : Int32) at_123 rfl ?_
        refine Walk.istore (pc' := 126) (Ls' := #[.val (.int p0), .val (.int p1), .val (.int p2), .val (.int p3), .val (.int p4), .val (.int an), .val (.ref s), .val (.int want), .val (.int (2 : Int32)), .val (.int (own_pk p2)), .val (.int (own_pk p3)), .val (.int (own_pk p4)), .val (.ref x), .val (.int (0 : Int32))]) at_124 rfl ?_
        refine Walk.aload (pc' := 128) at_126 rfl rfl ?_
        refine Walk.aload (pc' := 130) at_128 rfl rfl ?_
        refine Walk.old fun E9 => ?_
        refine Walk.callV (pc' := 133) (a := s) (Wd := 0) (as := [(.ref x)]) (rest := []) (wd40 hw) (wd41 hw) (wd43 hw) (wd43 hw) (wd42 hw) (E8.ext E9) ((c_may hw want s (F9.ext E9) x t _ 2 (by decide) z hz O2 e1 e2 e3 A9 hwt.1 hwt.2).pay (wd44 hw) (wd1 hw) (by decide) (by decide)) (hlen := lenOf pd11 rfl) (hd := at_130) (hst := rfl) (hW := Nat.le_of_eq rfl) (hsz := rfl) (hc1 := Nat.le_of_ble_eq_true rfl) (hl1 := Nat.le_of_ble_eq_true rfl) (hv := Fw.upN) (kk := fun v304 h308 Ts305 Li306 q307 K309 => ?_)
        obtain ⟨⟨r, rfl, hr1, hr2⟩, rfl, rfl, rfl⟩ := q307
        show Walk _ _ _ _ _ _ _ _ _ _ _ _ _ _ 4 10 133 _ [(.int r)]
        obtain rfl : r = 0 := hr1.elim id fun q => by
          obtain ⟨i, q1, q2⟩ := hr2.mp q
          match i, q1 with
          | 0, _ => exact absurd (own_lo8 (own_pk_rng p2) hwt q2) w0
          | 1, _ => exact absurd (own_lo8 (own_pk_rng p3) hwt q2) w1
        refine Walk.iload (pc' := 135) at_133 rfl ?_
        refine Walk.icNo (pc' := 138) at_135 (XT.ii_ne_f rfl) ?_
        refine Walk.iconst (pc' := 139) (1 : Int32) at_138 rfl ?_
        refine Walk.goto (pc' := 143) at_139 ?_
        exact Walk.nret at_143 rfl (by simp) rfl (fun _ q => q) (Nat.le_of_ble_eq_true rfl) (Nat.le_of_ble_eq_true rfl)
  · skip
    rw [show (p1 &&& (3 : Int32)) = 3 from e]
    refine Walk.istore (pc' := 48) (Ls' := #[.val (.int p0), .val (.int p1), .val (.int p2), .val (.int p3), .val (.int p4), .val (.int an), .val (.ref s), .val (.int want), .val (.int (3 : Int32)), .unset, .unset, .unset, .unset, .unset]) at_46 rfl ?_
    refine Walk.iloadN (pc' := 49) at_48 rfl ?_
    refine Walk.callS (pc' := 52) (Wd := 0) (as := [(.int p2)]) (rest := []) (wd3 hw) (wd4 hw) (wd5 hw) (wd6 hw) ((c_pick hw p2).pay (wd6 hw) (wd5 hw) (by decide) (by decide)) (hlen := lenOf pd9 rfl) (hd := at_49) (hst := rfl) (hW := Nat.le_of_eq rfl) (hsz := rfl) (hc1 := Nat.le_of_ble_eq_true rfl) (hl1 := Nat.le_of_ble_eq_true rfl) (hv := Fw.upN) (kk := fun v310 h314 Ts311 Li312 q313 K315 => ?_)
    obtain ⟨rfl, rfl, rfl, rfl⟩ := q313
    show Walk _ _ _ _ _ _ _ _ _ _ _ _ _ _ 0 0 52 _ [(.int (own_pk p2))]
    refine Walk.istore (pc' := 54) (Ls' := #[.val (.int p0), .val (.int p1), .val (.int p2), .val (.int p3), .val (.int p4), .val (.int an), .val (.ref s), .val (.int want), .val (.int (3 : Int32)), .val (.int (own_pk p2)), .unset, .unset, .unset, .unset]) at_52 rfl ?_
    refine Walk.iloadN (pc' := 55) at_54 rfl ?_
    refine Walk.callS (pc' := 58) (Wd := 0) (as := [(.int p3)]) (rest := []) (wd3 hw) (wd4 hw) (wd5 hw) (wd6 hw) ((c_pick hw p3).pay (wd6 hw) (wd5 hw) (by decide) (by decide)) (hlen := lenOf pd9 rfl) (hd := at_55) (hst := rfl) (hW := Nat.le_of_eq rfl) (hsz := rfl) (hc1 := Nat.le_of_ble_eq_true rfl) (hl1 := Nat.le_of_ble_eq_true rfl) (hv := Fw.upN) (kk := fun v316 h320 Ts317 Li318 q319 K321 => ?_)
    obtain ⟨rfl, rfl, rfl, rfl⟩ := q319
    show Walk _ _ _ _ _ _ _ _ _ _ _ _ _ _ 0 0 58 _ [(.int (own_pk p3))]
    refine Walk.istore (pc' := 60) (Ls' := #[.val (.int p0), .val (.int p1), .val (.int p2), .val (.int p3), .val (.int p4), .val (.int an), .val (.ref s), .val (.int want), .val (.int (3 : Int32)), .val (.int (own_pk p2)), .val (.int (own_pk p3)), .unset, .unset, .unset]) at_58 rfl ?_
    refine Walk.iload (pc' := 62) at_60 rfl ?_
    refine Walk.callS (pc' := 65) (Wd := 0) (as := [(.int p4)]) (rest := []) (wd3 hw) (wd4 hw) (wd5 hw) (wd6 hw) ((c_pick hw p4).pay (wd6 hw) (wd5 hw) (by decide) (by decide)) (hlen := lenOf pd9 rfl) (hd := at_62) (hst := rfl) (hW := Nat.le_of_eq rfl) (hsz := rfl) (hc1 := Nat.le_of_ble_eq_true rfl) (hl1 := Nat.le_of_ble_eq_true rfl) (hv := Fw.upN) (kk := fun v322 h326 Ts323 Li324 q325 K327 => ?_)
    obtain ⟨rfl, rfl, rfl, rfl⟩ := q325
    show Walk _ _ _ _ _ _ _ _ _ _ _ _ _ _ 0 0 65 _ [(.int (own_pk p4))]
    refine Walk.istore (pc' := 67) (Ls' := #[.val (.int p0), .val (.int p1), .val (.int p2), .val (.int p3), .val (.int p4), .val (.int an), .val (.ref s), .val (.int want), .val (.int (3 : Int32)), .val (.int (own_pk p2)), .val (.int (own_pk p3)), .val (.int (own_pk p4)), .unset, .unset]) at_65 rfl ?_
    refine Walk.iload (pc' := 69) at_67 rfl ?_
    refine Walk.iload (pc' := 71) at_69 rfl ?_
    refine Walk.iload (pc' := 73) at_71 rfl ?_
    refine Walk.iload (pc' := 75) at_73 rfl ?_
    refine Walk.callS (pc' := 78) (Wd := 0) (as := [(.int (3 : Int32)), (.int (own_pk p2)), (.int (own_pk p3)), (.int (own_pk p4))]) (rest := []) (wd7 hw) (wd8 hw) (wd5 hw) (wd9 hw) ((c_build3 hw (own_pk p2) (own_pk p3) (own_pk p4) z hz O2 hcw hTs hh (own_pk_rng p2) (own_pk_rng p3) (own_pk_rng p4)).pay (wd9 hw) (wd5 hw) (by decide) (by decide)) (hlen := lenOf pd10 rfl) (hd := at_75) (hst := rfl) (hW := Nat.le_of_eq rfl) (hsz := rfl) (hc1 := Nat.le_of_ble_eq_true rfl) (hl1 := Nat.le_of_ble_eq_true rfl) (hv := Fw.upN) (kk := fun v328 h332 Ts329 Li330 q331 K333 => ?_)
    obtain ⟨x, t, rfl, e1, e2, e3, A9⟩ := q331
    show Walk _ _ _ _ _ _ _ _ _ _ _ _ _ _ 4 10 78 _ [(.ref x)]
    refine Walk.astore (pc' := 80) (Ls' := #[.val (.int p0), .val (.int p1), .val (.int p2), .val (.int p3), .val (.int p4), .val (.int an), .val (.ref s), .val (.int want), .val (.int (3 : Int32)), .val (.int (own_pk p2)), .val (.int (own_pk p3)), .val (.int (own_pk p4)), .val (.ref x), .unset]) at_78 rfl rfl ?_
    refine Walk.iload (pc' := 82) at_80 rfl ?_
    refine Walk.iconst (pc' := 83) (1 : Int32) at_82 rfl ?_
    refine Walk.icNo (pc' := 86) at_83 (XT.ii_lt_f (by decide)) ?_
    refine Walk.iload (pc' := 88) at_86 rfl ?_
    refine Walk.iload (pc' := 90) at_88 rfl ?_
    by_cases w0 : (own_pk p2) = want
    · skip
      refine Walk.icYes (pc' := 119) at_90 (XT.ii_eq_t w0) ?_
      refine Walk.iconst (pc' := 120) (1 : Int32) at_119 rfl ?_
      refine Walk.goto (pc' := 124) at_120 ?_
      refine Walk.istore (pc' := 126) (Ls' := #[.val (.int p0), .val (.int p1), .val (.int p2), .val (.int p3), .val (.int p4), .val (.int an), .val (.ref s), .val (.int want), .val (.int (3 : Int32)), .val (.int (own_pk p2)), .val (.int (own_pk p3)), .val (.int (own_pk p4)), .val (.ref x), .val (.int (1 : Int32))]) at_124 rfl ?_
      refine Walk.old fun E9 => ?_
      refine Walk.aload (pc' := 128) at_126 rfl rfl ?_
      refine Walk.aload (pc' := 130) at_128 rfl rfl ?_
      refine Walk.callV (pc' := 133) (a := s) (Wd := 0) (as := [(.ref x)]) (rest := []) (wd40 hw) (wd41 hw) (wd43 hw) (wd43 hw) (wd42 hw) (E8.ext E9) ((c_may hw want s (F9.ext E9) x t _ 3 (by decide) z hz O2 e1 e2 e3 A9 hwt.1 hwt.2).pay (wd44 hw) (wd1 hw) (by decide) (by decide)) (hlen := lenOf pd11 rfl) (hd := at_130) (hst := rfl) (hW := Nat.le_of_eq rfl) (hsz := rfl) (hc1 := Nat.le_of_ble_eq_true rfl) (hl1 := Nat.le_of_ble_eq_true rfl) (hv := Fw.upN) (kk := fun v334 h338 Ts335 Li336 q337 K339 => ?_)
      obtain ⟨⟨r, rfl, hr1, hr2⟩, rfl, rfl, rfl⟩ := q337
      show Walk _ _ _ _ _ _ _ _ _ _ _ _ _ _ 4 10 133 _ [(.int r)]
      obtain rfl : r = 1 := hr2.mpr ⟨0, by decide, congrArg (fun q : Int32 => q.toInt8.toInt32) w0⟩
      refine Walk.iload (pc' := 135) at_133 rfl ?_
      refine Walk.icNo (pc' := 138) at_135 (XT.ii_ne_f rfl) ?_
      refine Walk.iconst (pc' := 139) (1 : Int32) at_138 rfl ?_
      refine Walk.goto (pc' := 143) at_139 ?_
      exact Walk.nret at_143 rfl (by simp) rfl (fun _ q => q) (Nat.le_of_ble_eq_true rfl) (Nat.le_of_ble_eq_true rfl)
    · skip
      refine Walk.icNo (pc' := 93) at_90 (XT.ii_eq_f w0) ?_
      refine Walk.iload (pc' := 95) at_93 rfl ?_
      refine Walk.iconst (pc' := 96) (2 : Int32) at_95 rfl ?_
      refine Walk.icNo (pc' := 99) at_96 (XT.ii_lt_f (by decide)) ?_
      refine Walk.iload (pc' := 101) at_99 rfl ?_
      refine Walk.iload (pc' := 103) at_101 rfl ?_
      by_cases w1 : (own_pk p3) = want
      · skip
        refine Walk.icYes (pc' := 119) at_103 (XT.ii_eq_t w1) ?_
        refine Walk.iconst (pc' := 120) (1 : Int32) at_119 rfl ?_
        refine Walk.goto (pc' := 124) at_120 ?_
        refine Walk.istore (pc' := 126) (Ls' := #[.val (.int p0), .val (.int p1), .val (.int p2), .val (.int p3), .val (.int p4), .val (.int an), .val (.ref s), .val (.int want), .val (.int (3 : Int32)), .val (.int (own_pk p2)), .val (.int (own_pk p3)), .val (.int (own_pk p4)), .val (.ref x), .val (.int (1 : Int32))]) at_124 rfl ?_
        refine Walk.old fun E9 => ?_
        refine Walk.aload (pc' := 128) at_126 rfl rfl ?_
        refine Walk.aload (pc' := 130) at_128 rfl rfl ?_
        refine Walk.callV (pc' := 133) (a := s) (Wd := 0) (as := [(.ref x)]) (rest := []) (wd40 hw) (wd41 hw) (wd43 hw) (wd43 hw) (wd42 hw) (E8.ext E9) ((c_may hw want s (F9.ext E9) x t _ 3 (by decide) z hz O2 e1 e2 e3 A9 hwt.1 hwt.2).pay (wd44 hw) (wd1 hw) (by decide) (by decide)) (hlen := lenOf pd11 rfl) (hd := at_130) (hst := rfl) (hW := Nat.le_of_eq rfl) (hsz := rfl) (hc1 := Nat.le_of_ble_eq_true rfl) (hl1 := Nat.le_of_ble_eq_true rfl) (hv := Fw.upN) (kk := fun v340 h344 Ts341 Li342 q343 K345 => ?_)
        obtain ⟨⟨r, rfl, hr1, hr2⟩, rfl, rfl, rfl⟩ := q343
        show Walk _ _ _ _ _ _ _ _ _ _ _ _ _ _ 4 10 133 _ [(.int r)]
        obtain rfl : r = 1 := hr2.mpr ⟨1, by decide, congrArg (fun q : Int32 => q.toInt8.toInt32) w1⟩
        refine Walk.iload (pc' := 135) at_133 rfl ?_
        refine Walk.icNo (pc' := 138) at_135 (XT.ii_ne_f rfl) ?_
        refine Walk.iconst (pc' := 139) (1 : Int32) at_138 rfl ?_
        refine Walk.goto (pc' := 143) at_139 ?_
        exact Walk.nret at_143 rfl (by simp) rfl (fun _ q => q) (Nat.le_of_ble_eq_true rfl) (Nat.le_of_ble_eq_true rfl)
      · skip
        refine Walk.icNo (pc' := 106) at_103 (XT.ii_eq_f w1) ?_
        refine Walk.iload (pc' := 108) at_106 rfl ?_
        refine Walk.iconst (pc' := 109) (3 : Int32) at_108 rfl ?_
        refine Walk.icNo (pc' := 112) at_109 (XT.ii_lt_f (by decide)) ?_
        refine Walk.iload (pc' := 114) at_112 rfl ?_
        refine Walk.iload (pc' := 116) at_114 rfl ?_
        by_cases w2 : (own_pk p4) = want
        · skip
          refine Walk.icNo (pc' := 119) at_116 (XT.ii_ne_f w2) ?_
          refine Walk.iconst (pc' := 120) (1 : Int32) at_119 rfl ?_
          refine Walk.goto (pc' := 124) at_120 ?_
          refine Walk.istore (pc' := 126) (Ls' := #[.val (.int p0), .val (.int p1), .val (.int p2), .val (.int p3), .val (.int p4), .val (.int an), .val (.ref s), .val (.int want), .val (.int (3 : Int32)), .val (.int (own_pk p2)), .val (.int (own_pk p3)), .val (.int (own_pk p4)), .val (.ref x), .val (.int (1 : Int32))]) at_124 rfl ?_
          refine Walk.old fun E9 => ?_
          refine Walk.aload (pc' := 128) at_126 rfl rfl ?_
          refine Walk.aload (pc' := 130) at_128 rfl rfl ?_
          refine Walk.callV (pc' := 133) (a := s) (Wd := 0) (as := [(.ref x)]) (rest := []) (wd40 hw) (wd41 hw) (wd43 hw) (wd43 hw) (wd42 hw) (E8.ext E9) ((c_may hw want s (F9.ext E9) x t _ 3 (by decide) z hz O2 e1 e2 e3 A9 hwt.1 hwt.2).pay (wd44 hw) (wd1 hw) (by decide) (by decide)) (hlen := lenOf pd11 rfl) (hd := at_130) (hst := rfl) (hW := Nat.le_of_eq rfl) (hsz := rfl) (hc1 := Nat.le_of_ble_eq_true rfl) (hl1 := Nat.le_of_ble_eq_true rfl) (hv := Fw.upN) (kk := fun v346 h350 Ts347 Li348 q349 K351 => ?_)
          obtain ⟨⟨r, rfl, hr1, hr2⟩, rfl, rfl, rfl⟩ := q349
          show Walk _ _ _ _ _ _ _ _ _ _ _ _ _ _ 4 10 133 _ [(.int r)]
          obtain rfl : r = 1 := hr2.mpr ⟨2, by decide, congrArg (fun q : Int32 => q.toInt8.toInt32) w2⟩
          refine Walk.iload (pc' := 135) at_133 rfl ?_
          refine Walk.icNo (pc' := 138) at_135 (XT.ii_ne_f rfl) ?_
          refine Walk.iconst (pc' := 139) (1 : Int32) at_138 rfl ?_
          refine Walk.goto (pc' := 143) at_139 ?_
          exact Walk.nret at_143 rfl (by simp) rfl (fun _ q => q) (Nat.le_of_ble_eq_true rfl) (Nat.le_of_ble_eq_true rfl)
        · skip
          refine Walk.icYes (pc' := 123) at_116 (XT.ii_ne_t w2) ?_
          refine Walk.iconst (pc' := 124) (0 : Int32) at_123 rfl ?_
          refine Walk.istore (pc' := 126) (Ls' := #[.val (.int p0), .val (.int p1), .val (.int p2), .val (.int p3), .val (.int p4), .val (.int an), .val (.ref s), .val (.int want), .val (.int (3 : Int32)), .val (.int (own_pk p2)), .val (.int (own_pk p3)), .val (.int (own_pk p4)), .val (.ref x), .val (.int (0 : Int32))]) at_124 rfl ?_
          refine Walk.old fun E9 => ?_
          refine Walk.aload (pc' := 128) at_126 rfl rfl ?_
          refine Walk.aload (pc' := 130) at_128 rfl rfl ?_
          refine Walk.callV (pc' := 133) (a := s) (Wd := 0) (as := [(.ref x)]) (rest := []) (wd40 hw) (wd41 hw) (wd43 hw) (wd43 hw) (wd42 hw) (E8.ext E9) ((c_may hw want s (F9.ext E9) x t _ 3 (by decide) z hz O2 e1 e2 e3 A9 hwt.1 hwt.2).pay (wd44 hw) (wd1 hw) (by decide) (by decide)) (hlen := lenOf pd11 rfl) (hd := at_130) (hst := rfl) (hW := Nat.le_of_eq rfl) (hsz := rfl) (hc1 := Nat.le_of_ble_eq_true rfl) (hl1 := Nat.le_of_ble_eq_true rfl) (hv := Fw.upN) (kk := fun v352 h356 Ts353 Li354 q355 K357 => ?_)
          obtain ⟨⟨r, rfl, hr1, hr2⟩, rfl, rfl, rfl⟩ := q355
          show Walk _ _ _ _ _ _ _ _ _ _ _ _ _ _ 4 10 133 _ [(.int r)]
          obtain rfl : r = 0 := hr1.elim id fun q => by
            obtain ⟨i, q1, q2⟩ := hr2.mp q
            match i, q1 with
            | 0, _ => exact absurd (own_lo8 (own_pk_rng p2) hwt q2) w0
            | 1, _ => exact absurd (own_lo8 (own_pk_rng p3) hwt q2) w1
            | 2, _ => exact absurd (own_lo8 (own_pk_rng p4) hwt q2) w2
          refine Walk.iload (pc' := 135) at_133 rfl ?_
          refine Walk.icNo (pc' := 138) at_135 (XT.ii_ne_f rfl) ?_
          refine Walk.iconst (pc' := 139) (1 : Int32) at_138 rfl ?_
          refine Walk.goto (pc' := 143) at_139 ?_
          exact Walk.nret at_143 rfl (by simp) rfl (fun _ q => q) (Nat.le_of_ble_eq_true rfl) (Nat.le_of_ble_eq_true rfl)
set_option maxRecDepth 65536 in
set_option maxHeartbeats 40000000 in
theorem c_law {Z : State} {a0 : Array Value} (hw : ∀ d ∈ tables_1, d.before a0 Z = true) {h : Heap} {Ts : TsT} {Li : LiT} (p0 p1 p2 p3 p4 : Int32) (s1 s2 : Addr) (z : Int32) (hz : ¬ z = 0) (O2 : Sta Z Z.heap "java/lang/String" "COMPACT_STRINGS" "Z" (.int z)) (hcw : Jvm.Lit.compactW.before a0 Z = true) (hTs : Ts = some []) (hh : Jvm.Lit.constHeld Z "java/lang/String" 7) (S1 : Sta Z Z.heap "com/example/cubeset/cubeset/sql/SessionSetting" "ANSI_QUOTES" "Lcom/example/cubeset/cubeset/sql/SessionSetting;" (.ref s1)) (S2 : Sta Z Z.heap "com/example/cubeset/cubeset/sql/SessionSetting" "NO_BACKSLASH_ESCAPES" "Lcom/example/cubeset/cubeset/sql/SessionSetting;" (.ref s2)) (F1 : Fld Z Z.heap s1 "com/example/cubeset/cubeset/sql/SessionSetting" "character" "C" (.int 34)) (F2 : Fld Z Z.heap s2 "com/example/cubeset/cubeset/sql/SessionSetting" "character" "C" (.int 92)) (E1 : Exa Z Z.heap s1 "com/example/cubeset/cubeset/sql/SessionSetting") (E2 : Exa Z Z.heap s2 "com/example/cubeset/cubeset/sql/SessionSetting") :
    Con Z x code maxLocals ret room_1 [(.int p0), (.int p1), (.int p2), (.int p3), (.int p4)] h Ts Li (noW) (fun v h' Ts' Li' => v = some (.int 1)) := by
  refine Con.of (ws := Fw h noW) (Ls := #[.val (.int p0), .val (.int p1), .val (.int p2), .val (.int p3), .val (.int p4), .unset, .unset, .unset, .unset, .unset, .unset, .unset, .unset, .unset]) (plainFor_of_name pn3) (fun m => by first | rfl | (simp [entryFrame, mkF, argsToLocals, Value.category]; done)) (fun E0 => ?_)
  refine Walk.iloadN (pc' := 1) at_0 rfl ?_
  refine Walk.iconst (pc' := 2) (1 : Int32) at_1 rfl ?_
  refine Walk.iand (pc' := 3) at_2 ?_
  by_cases hx : (p0 &&& (1 : Int32)) = 0
  · skip
    refine Walk.ifNo (pc' := 6) at_3 (XT.i0_ne_f hx) ?_
    refine Walk.iconst (pc' := 7) (1 : Int32) at_6 rfl ?_
    refine Walk.goto (pc' := 11) at_7 ?_
    refine Walk.istore (pc' := 13) (Ls' := #[.val (.int p0), .val (.int p1), .val (.int p2), .val (.int p3), .val (.int p4), .val (.int (1 : Int32)), .unset, .unset, .unset, .unset, .unset, .unset, .unset, .unset]) at_11 rfl ?_
    refine Walk.iload (pc' := 15) at_13 rfl ?_
    refine Walk.ifNo (pc' := 18) at_15 (XT.i0_eq_f (by decide)) ?_
    refine Walk.getS (pc' := 21) (wd0 hw) Via.refl S1 at_18 ?_
    refine Walk.goto (pc' := 27) at_21 ?_
    refine Walk.astore (pc' := 29) (Ls' := #[.val (.int p0), .val (.int p1), .val (.int p2), .val (.int p3), .val (.int p4), .val (.int (1 : Int32)), .val (.ref s1), .unset, .unset, .unset, .unset, .unset, .unset, .unset]) at_27 rfl rfl ?_
    refine Walk.iload (pc' := 31) at_29 rfl ?_
    refine Walk.ifNo (pc' := 34) at_31 (XT.i0_eq_f (by decide)) ?_
    refine Walk.bipush (pc' := 36) (34 : Int32) at_34 rfl ?_
    refine Walk.goto (pc' := 41) at_36 ?_
    refine Walk.istore (pc' := 43) (Ls' := #[.val (.int p0), .val (.int p1), .val (.int p2), .val (.int p3), .val (.int p4), .val (.int (1 : Int32)), .val (.ref s1), .val (.int (34 : Int32)), .unset, .unset, .unset, .unset, .unset, .unset]) at_41 rfl ?_
    exact p_law43 hw p0 p1 p2 p3 p4 1 34 s1 z hz O2 hcw hTs hh F1 ⟨by decide, by decide⟩ E1
  · skip
    refine Walk.ifYes (pc' := 10) at_3 (XT.i0_ne_t hx) ?_
    refine Walk.iconst (pc' := 11) (0 : Int32) at_10 rfl ?_
    refine Walk.istore (pc' := 13) (Ls' := #[.val (.int p0), .val (.int p1), .val (.int p2), .val (.int p3), .val (.int p4), .val (.int (0 : Int32)), .unset, .unset, .unset, .unset, .unset, .unset, .unset, .unset]) at_11 rfl ?_
    refine Walk.iload (pc' := 15) at_13 rfl ?_
    refine Walk.ifYes (pc' := 24) at_15 (XT.i0_eq_t rfl) ?_
    refine Walk.getS (pc' := 27) (wd89 hw) Via.refl S2 at_24 ?_
    refine Walk.astore (pc' := 29) (Ls' := #[.val (.int p0), .val (.int p1), .val (.int p2), .val (.int p3), .val (.int p4), .val (.int (0 : Int32)), .val (.ref s2), .unset, .unset, .unset, .unset, .unset, .unset, .unset]) at_27 rfl rfl ?_
    refine Walk.iload (pc' := 31) at_29 rfl ?_
    refine Walk.ifYes (pc' := 39) at_31 (XT.i0_eq_t rfl) ?_
    refine Walk.bipush (pc' := 41) (92 : Int32) at_39 rfl ?_
    refine Walk.istore (pc' := 43) (Ls' := #[.val (.int p0), .val (.int p1), .val (.int p2), .val (.int p3), .val (.int p4), .val (.int (0 : Int32)), .val (.ref s2), .val (.int (92 : Int32)), .unset, .unset, .unset, .unset, .unset, .unset]) at_41 rfl ?_
    exact p_law43 hw p0 p1 p2 p3 p4 0 92 s2 z hz O2 hcw hTs hh F2 ⟨by decide, by decide⟩ E2
set_option maxRecDepth 65536 in
set_option maxHeartbeats 40000000 in
theorem comes_1 {Post : Tables → Env → Array Value → State → Outcome → State → Prop} (hpost : ∀ tb e args s v u, (limb_1_1.after args s (.returned v) u = true ∧ limb_1_2.after args s (.returned v) u = true ∧ True) → FramedW s (.returned v) u (Jvm.fieldLocs frame_1_writes args s ++ Jvm.arrayLocs frame_1_arrays args s ++ Jvm.staticLocs frame_1_statics s) 16 1152 → Post tb e args s (.returned v) u) :
    ArmFor flags0 classFile x code maxLocals ret World_1 tables_1 room_1 Calls_1 rest_1 Pre_1 Post := by
  intro l hfl _ _ p e ha hc hk s m args below hf hA hF happ hP
  obtain ⟨hcalls, hrest, hpre⟩ := hP
  obtain ⟨-, -, -, hnamed, -, -, -, hat⟩ := (Spec.applies_iff hf).mp happ
  obtain ⟨hg, hn⟩ := and_e (Cond.before_iff.mp (show (Jvm.Cond.and given_1 narrow_1).before args s = true from hpre))
  obtain ⟨h1, b0⟩ := and_e hg
  obtain ⟨a0, b1⟩ := and_e b0
  obtain ⟨a1, b2⟩ := and_e b1
  obtain ⟨a2, b3⟩ := and_e b2
  obtain ⟨a3, b4⟩ := and_e b3
  obtain ⟨u0, u1, u2, u3, u4, rfl⟩ : ∃ u0 u1 u2 u3 u4 : Value, args = #[u0, u1, u2, u3, u4] := by
    have hs : args.size = 5 := by simpa [Cond.value, given_1] using h1
    obtain ⟨L⟩ := args
    match L, hs with
    | [u0, u1, u2, u3, u4], _ => exact ⟨u0, u1, u2, u3, u4, rfl⟩
  have hw := fun d (hd : d ∈ tables_1) => atoms_spec (ws := Jvm.Cond.code x code maxLocals ret :: tables_1) hat d (List.mem_cons_of_mem _ hd)
  obtain ⟨hsets, hown0⟩ := atoms_of _ (rest_1_c_eq ▸ (show rest_1_c.before _ s = true from hrest))
  obtain ⟨p0, e0⟩ := is_v a0
  obtain rfl : u0 = (.int p0) := Option.some.inj e0
  obtain ⟨p1, e1⟩ := is_v a1
  obtain rfl : u1 = (.int p1) := Option.some.inj e1
  obtain ⟨p2, e2⟩ := is_v a2
  obtain rfl : u2 = (.int p2) := Option.some.inj e2
  obtain ⟨p3, e3⟩ := is_v a3
  obtain rfl : u3 = (.int p3) := Option.some.inj e3
  obtain ⟨p4, e4⟩ := is_v b4
  obtain rfl : u4 = (.int p4) := Option.some.inj e4
  obtain ⟨z, ez⟩ := is_v (Cond.before_iff.mp (hsets _ (List.mem_of_getElem? (i := 1) rfl)))
  have O2 : Sta s s.heap "java/lang/String" "COMPACT_STRINGS" "Z" (.int z) := Sta.start ez (Or.inl (hsets _ (List.mem_of_getElem? (i := 0) rfl)))
  have hcw := hsets _ (List.mem_of_getElem? (i := 2) rfl)
  have hz : ¬ (z = (0 : Int32)) := gotF (Cond.eq_ints ez (Term.int_eval (0))) (not_v (Cond.before_iff.mp hcw))
  obtain ⟨G3, eG, rG3⟩ := isR_v (Cond.before_iff.mp (hsets _ (List.mem_of_getElem? (i := 8) rfl)))
  have O4 : Sta s s.heap "jdk/internal/util/Preconditions" "SIOOBE_FORMATTER" "Ljava/util/function/BiFunction;" G3 := Sta.start eG (Or.inl (hsets _ (List.mem_of_getElem? (i := 7) rfl)))
  have hh : Jvm.Lit.constHeld s "java/lang/String" 7 := hcalls.1 ("java/lang/String", 7) (by decide)
  obtain ⟨n1, m1⟩ := and_e hn
  obtain ⟨n2, m2⟩ := and_e m1
  obtain ⟨n3, n4⟩ := and_e m2
  obtain ⟨s1, es1⟩ := exa_v n1
  obtain ⟨s2, es2⟩ := exa_v n3
  have S1 : Sta s s.heap "com/example/cubeset/cubeset/sql/SessionSetting" "ANSI_QUOTES" "Lcom/example/cubeset/cubeset/sql/SessionSetting;" (.ref s1) := Sta.start es1 (Or.inr ⟨(wd1 hw), (wd2 hw)⟩)
  have S2 : Sta s s.heap "com/example/cubeset/cubeset/sql/SessionSetting" "NO_BACKSLASH_ESCAPES" "Lcom/example/cubeset/cubeset/sql/SessionSetting;" (.ref s2) := Sta.start es2 (Or.inr ⟨(wd1 hw), (wd90 hw)⟩)
  have F1 : Fld s s.heap s1 "com/example/cubeset/cubeset/sql/SessionSetting" "character" "C" (.int 34) := Fld.start ((fld_at es1).symm.trans (Cond.eq_int (Cond.before_iff.mpr n2) rfl))
  have F2 : Fld s s.heap s2 "com/example/cubeset/cubeset/sql/SessionSetting" "character" "C" (.int 92) := Fld.start ((fld_at es2).symm.trans (Cond.eq_int (Cond.before_iff.mpr n4) rfl))
  obtain ⟨n, o, h1, h2, h3, v, L, Ts', Li', rfl, hq, hls, N, hws, hE⟩ := c_law hw p0 p1 p2 p3 p4 s1 s2 z hz O2 hcw rfl hh S1 S2 F1 F2 (Exa.start es1 n1) (Exa.start es2 n3) l tables_1 p e ha hc hk s m _ below hf ((Spec.applies_iff_loose hf).mp happ).1 ⟨rfl, State.Warmed39.refl s, rfl, ⟨Nat.le_refl _, fun _ _ q => q⟩, LS.start⟩ trivial
  obtain rfl := hq
  refine ⟨n, _, h1, h2, h3, hpost _ _ _ _ _ _ ⟨Cond.after_iff.mpr rfl, Cond.after_iff.mpr (eq_i res_at (Term.int_eval (1)) rfl), trivial⟩ ⟨hE.1, hE.2.1, hE.2.2.1, (hE.2.2.2.sift fun y hy => Or.inr (N y hy)).mono (by decide) (by decide)⟩⟩
theorem main_1_1 : Claimed_1_1 := comes_1 fun _ _ _ _ _ _ h hF => ⟨h.1, hF⟩
theorem main_1_2 : Claimed_1_2 := comes_1 fun _ _ _ _ _ _ h hF => ⟨h.2.1, hF⟩
end Jvm.Pilot.@@N@@
namespace Jvm.Pilot.@@N@@
open Jvm Jvm.ClassFile Sem Op Lib Jvm.Free Jvm.Stand Jvm.Pilot.@@N@@.Jvm.D
/-! MADE BY PROGRAM (witnessworld.py) out of the Statement's table words and the real class files: 22 classes; the members and pool entries that the words name. The judged class is class 1, her method 3. -/
namespace start1
open Jvm.ClassFile
def u (s : String) : CpInfo := .utf8 (stringToUtf16 s)
/-- a pool by its gaps: so many unusable entries, then the entry; so many at the end -/
def gap : Nat → List CpInfo → List CpInfo
  | 0, r => r
  | n + 1, r => .unusable :: gap n r
def poolList (es : List (Nat × CpInfo)) (last : Nat) : List CpInfo := es.foldr (fun e r => gap e.1 (e.2 :: r)) (gap last [])
def pool (es : List (Nat × CpInfo)) (last : Nat) : Array CpInfo := ⟨poolList es last⟩
def fileOf (pool : Array CpInfo) (this : Nat) (attrs : Array Attribute := #[]) (ms : Array MethodInfo := #[]) (fl : Nat := 33) (sup : Nat := 0) (ifs : Array Nat := #[]) (fds : Array FieldInfo := #[]) : ClassFile where
  minorVersion := 0
  majorVersion := 65
  constantPool := pool
  accessFlags := fl
  thisClass := this
  superClass := sup
  interfaces := ifs
  fields := fds
  methods := ms
  attributes := attrs
def plain (name : String) (sup : Option ClassId) : Class where
  name := name
  kind := .ordinary
  loader := none
  accessFlags := 33
  super := sup
  interfaces := #[]
  cf := none
  fields := #[]
  methods := #[]
  instanceTypes := #[]
  staticTypes := #[]
  resolved := #[]
  callSites := []
  init := .initialized
  statics := none
  mirror := none

def pool0 : Array CpInfo := pool [(5, u "<init>"), (0, u "()V"), (1, .class_ 10), (1, u "java/lang/Object")] 113

def k0c0 : Code := { maxStack := 0, maxLocals := 1, code := object_method_1_code, exceptionTable := #[], attributes := #[] }
def k0m0 : Method := { name := "<init>", desc := "()V", sig := { parameters := [], returnType := none }, accessFlags := 1, code := some k0c0 }
/-- java/lang/Object -/
def k0 : Class := { plain "java/lang/Object" none with
  accessFlags := 33
  interfaces := #[]
  cf := some (fileOf pool0 8 #[] #[{ accessFlags := 1, nameIndex := 5, descriptorIndex := 6, attributes := #[] }] 33 0 #[] #[])
  fields := #[]
  methods := #[k0m0]
  instanceTypes := #[]
  staticTypes := #[]
  resolved := Array.replicate 124 none
  statics := none }

def pool1 : Array CpInfo := pool [(2, .class_ 4), (1, u "java/lang/Object"), (0, u "<init>"), (0, u "()V"), (0, .class_ 8), (0, u "java/lang/String"), (0, .methodref 7 10), (0, .nameAndType 5 11), (0, u "([C)V"), (0, .fieldref 13 14), (0, .class_ 15), (0, .nameAndType 16 17), (0, u "com/example/cubeset/cubeset/sql/SessionSetting"), (0, u "ANSI_QUOTES"), (0, u "Lcom/example/cubeset/cubeset/sql/SessionSetting;"), (0, .fieldref 13 19), (0, .nameAndType 20 17), (0, u "NO_BACKSLASH_ESCAPES"), (0, .methodref 22 23), (0, .class_ 24), (0, .nameAndType 25 26), (0, u "com/example/cubeset/cubeset/sql/SessionSettingMayChangeReadingOfPinLaw"), (0, u "pick"), (0, u "(I)C"), (0, .methodref 22 28), (0, .nameAndType 29 30), (0, u "build"), (0, u "(ICCC)Ljava/lang/String;"), (0, .methodref 13 32), (0, .nameAndType 33 34), (0, u "mayChangeReadingOf"), (0, u "(Ljava/lang/String;)Z"), (3, u "law"), (0, u "(IIIII)Z")] 2

def k1m0 : Method := { name := "<init>", desc := "()V", sig := { parameters := [], returnType := none }, accessFlags := 1, code := none }
def k1c1 : Code := { maxStack := 2, maxLocals := 2, code := method_2_code, exceptionTable := #[], attributes := #[] }
def k1m1 : Method := { name := "pick", desc := "(I)C", sig := { parameters := [.int], returnType := some .char }, accessFlags := 10, code := some k1c1 }
def k1c2 : Code := { maxStack := 6, maxLocals := 4, code := method_3_code, exceptionTable := #[], attributes := #[] }
def k1m2 : Method := { name := "build", desc := "(ICCC)Ljava/lang/String;", sig := { parameters := [.int, .char, .char, .char], returnType := some (.object "java/lang/String") }, accessFlags := 10, code := some k1c2 }
def k1c3 : Code := { maxStack := 4, maxLocals := 14, code := code, exceptionTable := #[], attributes := #[] }
def k1m3 : Method := { name := "law", desc := "(IIIII)Z", sig := { parameters := [.int, .int, .int, .int, .int], returnType := some .boolean }, accessFlags := 9, code := some k1c3 }
/-- com/example/cubeset/cubeset/sql/SessionSettingMayChangeReadingOfPinLaw -/
def k1 : Class := { plain "com/example/cubeset/cubeset/sql/SessionSettingMayChangeReadingOfPinLaw" (some 0) with
  accessFlags := 49
  interfaces := #[]
  cf := some (fileOf pool1 22 #[] #[{ accessFlags := 1, nameIndex := 5, descriptorIndex := 6, attributes := #[] }, { accessFlags := 10, nameIndex := 25, descriptorIndex := 26, attributes := #[] }, { accessFlags := 10, nameIndex := 29, descriptorIndex := 30, attributes := #[] }, { accessFlags := 9, nameIndex := 38, descriptorIndex := 39, attributes := #[] }] 49 2 #[] #[])
  fields := #[]
  methods := #[k1m0, k1m1, k1m2, k1m3]
  instanceTypes := #[]
  staticTypes := #[]
  resolved := Array.replicate 42 none
  statics := none }

def pool2 : Array CpInfo := pool [(1, .class_ 2), (0, u "java/lang/constant/Constable"), (0, .class_ 4), (0, u "java/lang/Object")] 6

/-- java/lang/constant/Constable -/
def k2 : Class := { plain "java/lang/constant/Constable" (some 0) with
  accessFlags := 1537
  interfaces := #[]
  cf := some (fileOf pool2 1 #[] #[] 1537 3 #[] #[])
  fields := #[]
  methods := #[]
  instanceTypes := #[]
  staticTypes := #[]
  resolved := Array.replicate 11 none
  statics := none }

def pool3 : Array CpInfo := pool [(1, .class_ 2), (0, u "java/lang/Comparable"), (0, .class_ 4), (0, u "java/lang/Object")] 7

/-- java/lang/Comparable -/
def k3 : Class := { plain "java/lang/Comparable" (some 0) with
  accessFlags := 1537
  interfaces := #[]
  cf := some (fileOf pool3 1 #[] #[] 1537 3 #[] #[])
  fields := #[]
  methods := #[]
  instanceTypes := #[]
  staticTypes := #[]
  resolved := Array.replicate 12 none
  statics := none }

def pool4 : Array CpInfo := pool [(1, .class_ 2), (0, u "java/io/Serializable"), (0, .class_ 4), (0, u "java/lang/Object")] 2

/-- java/io/Serializable -/
def k4 : Class := { plain "java/io/Serializable" (some 0) with
  accessFlags := 1537
  interfaces := #[]
  cf := some (fileOf pool4 1 #[] #[] 1537 3 #[] #[])
  fields := #[]
  methods := #[]
  instanceTypes := #[]
  staticTypes := #[]
  resolved := Array.replicate 7 none
  statics := none }

def pool5 : Array CpInfo := pool [(2, .class_ 4), (1, u "java/lang/Enum"), (0, u "name"), (0, u "Ljava/lang/String;"), (2, u "ordinal"), (0, u "I"), (1, .class_ 14), (1, u "java/lang/Object"), (4, u "hash"), (86, .class_ 108), (1, u "java/lang/Enum$EnumDesc"), (2, .class_ 112), (0, u "java/lang/constant/Constable"), (0, .class_ 114), (0, u "java/lang/Comparable"), (0, .class_ 116), (0, u "java/io/Serializable")] 87

/-- java/lang/Enum -/
def k5 : Class := { plain "java/lang/Enum" (some 0) with
  accessFlags := 1057
  interfaces := #[2, 3, 4]
  cf := some (fileOf pool5 2 #[.nestMembers #[106]] #[] 1057 12 #[111, 113, 115] #[{ accessFlags := 18, nameIndex := 5, descriptorIndex := 6, attributes := #[] }, { accessFlags := 18, nameIndex := 9, descriptorIndex := 10, attributes := #[] }, { accessFlags := 2, nameIndex := 19, descriptorIndex := 10, attributes := #[] }])
  fields := #[{ name := "name", type := (.object "java/lang/String"), accessFlags := 18, slot := 0, constantValue := 0 }, { name := "ordinal", type := .int, accessFlags := 18, slot := 1, constantValue := 0 }, { name := "hash", type := .int, accessFlags := 2, slot := 2, constantValue := 0 }]
  methods := #[]
  instanceTypes := #[(.object "java/lang/String"), .int, .int]
  staticTypes := #[]
  resolved := Array.replicate 204 none
  statics := none }

def pool6 : Array CpInfo := pool [(1, .class_ 2), (0, u "com/example/cubeset/cubeset/sql/SessionSetting"), (2, u "ANSI_QUOTES"), (0, u "Lcom/example/cubeset/cubeset/sql/SessionSetting;"), (2, u "NO_BACKSLASH_ESCAPES"), (2, u "$VALUES"), (0, u "[Lcom/example/cubeset/cubeset/sql/SessionSetting;"), (6, .class_ 22), (1, u "java/lang/Enum"), (8, u "suspended"), (0, u "Lcom/example/cubeset/cubeset/sql/SpellingRule;"), (0, .fieldref 1 34), (0, .nameAndType 35 36), (0, u "character"), (0, u "C"), (0, .methodref 38 39), (0, .class_ 40), (0, .nameAndType 41 42), (0, u "java/lang/String"), (0, u "indexOf"), (0, u "(I)I"), (25, u "mayChangeReadingOf"), (0, u "(Ljava/lang/String;)Z")] 6

def k6c0 : Code := { maxStack := 2, maxLocals := 2, code := prog_62_method_5_code, exceptionTable := #[], attributes := #[] }
def k6m0 : Method := { name := "mayChangeReadingOf", desc := "(Ljava/lang/String;)Z", sig := { parameters := [(.object "java/lang/String")], returnType := some .boolean }, accessFlags := 0, code := some k6c0 }
/-- com/example/cubeset/cubeset/sql/SessionSetting -/
def k6 : Class := { plain "com/example/cubeset/cubeset/sql/SessionSetting" (some 5) with
  accessFlags := 16432
  interfaces := #[]
  cf := some (fileOf pool6 1 #[] #[{ accessFlags := 0, nameIndex := 68, descriptorIndex := 69, attributes := #[] }] 16432 20 #[] #[{ accessFlags := 16409, nameIndex := 5, descriptorIndex := 6, attributes := #[] }, { accessFlags := 16409, nameIndex := 9, descriptorIndex := 6, attributes := #[] }, { accessFlags := 18, nameIndex := 31, descriptorIndex := 32, attributes := #[] }, { accessFlags := 18, nameIndex := 35, descriptorIndex := 36, attributes := #[] }, { accessFlags := 4122, nameIndex := 12, descriptorIndex := 13, attributes := #[] }])
  fields := #[{ name := "ANSI_QUOTES", type := (.object "com/example/cubeset/cubeset/sql/SessionSetting"), accessFlags := 16409, slot := 0, constantValue := 0 }, { name := "NO_BACKSLASH_ESCAPES", type := (.object "com/example/cubeset/cubeset/sql/SessionSetting"), accessFlags := 16409, slot := 1, constantValue := 0 }, { name := "suspended", type := (.object "com/example/cubeset/cubeset/sql/SpellingRule"), accessFlags := 18, slot := 3, constantValue := 0 }, { name := "character", type := .char, accessFlags := 18, slot := 4, constantValue := 0 }, { name := "$VALUES", type := (.array (.object "com/example/cubeset/cubeset/sql/SessionSetting")), accessFlags := 4122, slot := 2, constantValue := 0 }]
  methods := #[k6m0]
  instanceTypes := #[(.object "java/lang/String"), .int, .int, (.object "com/example/cubeset/cubeset/sql/SpellingRule"), .char]
  staticTypes := #[(.object "com/example/cubeset/cubeset/sql/SessionSetting"), (.object "com/example/cubeset/cubeset/sql/SessionSetting"), (.array (.object "com/example/cubeset/cubeset/sql/SessionSetting"))]
  resolved := Array.replicate 76 none
  statics := some 0 }

def pool7 : Array CpInfo := pool [(2, .class_ 4), (1, u "java/lang/CharSequence"), (42, .class_ 48), (0, u "java/lang/CharSequence$1CodePointIterator"), (10, .class_ 60), (0, u "java/lang/CharSequence$1CharIterator"), (5, .class_ 67), (0, u "java/lang/Object")] 63

/-- java/lang/CharSequence -/
def k7 : Class := { plain "java/lang/CharSequence" (some 0) with
  accessFlags := 1537
  interfaces := #[]
  cf := some (fileOf pool7 2 #[.nestMembers #[47, 59]] #[] 1537 66 #[] #[])
  fields := #[]
  methods := #[]
  instanceTypes := #[]
  staticTypes := #[]
  resolved := Array.replicate 131 none
  statics := none }

def pool8 : Array CpInfo := pool [(1, .class_ 2), (0, u "java/lang/constant/ConstantDesc"), (0, .class_ 4), (0, u "java/lang/Object")] 32

/-- java/lang/constant/ConstantDesc -/
def k8 : Class := { plain "java/lang/constant/ConstantDesc" (some 0) with
  accessFlags := 1537
  interfaces := #[]
  cf := some (fileOf pool8 1 #[] #[] 1537 3 #[] #[])
  fields := #[]
  methods := #[]
  instanceTypes := #[]
  staticTypes := #[]
  resolved := Array.replicate 37 none
  statics := none }

def pool9 : Array CpInfo := pool [(1, .methodref 2 3), (0, .class_ 4), (0, .nameAndType 5 6), (0, u "java/lang/Object"), (0, u "<init>"), (0, u "()V"), (0, .string 8), (0, u ""), (0, .fieldref 10 11), (0, .class_ 12), (0, .nameAndType 13 14), (0, u "java/lang/String"), (0, u "value"), (0, u "[B"), (0, .fieldref 10 16), (0, .nameAndType 17 18), (0, u "coder"), (0, u "B"), (2, u "hash"), (0, u "I"), (2, u "hashIsZero"), (0, u "Z"), (0, .methodref 10 28), (0, .nameAndType 5 29), (0, u "([CIILjava/lang/Void;)V"), (8, .fieldref 10 39), (0, .nameAndType 40 26), (0, u "COMPACT_STRINGS"), (1, .class_ 44), (1, u "java/lang/StringUTF16"), (0, u "compress"), (1, .methodref 42 48), (0, .nameAndType 49 50), (0, u "coderFromArrayLen"), (0, u "([BI)B"), (56, .class_ 109), (1, u "java/lang/StringLatin1"), (32, u "()Z"), (34, .methodref 42 178), (0, .nameAndType 45 179), (0, u "([CII)[B"), (154, u "()I"), (0, .methodref 10 336), (0, .nameAndType 17 337), (0, u "()B"), (154, .methodref 10 493), (0, .nameAndType 494 142), (0, u "isLatin1"), (10, .methodref 10 506), (0, .nameAndType 507 334), (0, u "length"), (67, .class_ 576), (0, u "java/lang/CharSequence"), (22, u "CASE_INSENSITIVE_ORDER"), (0, u "Ljava/util/Comparator;"), (32, .methodref 10 634), (0, .nameAndType 635 636), (0, u "indexOf"), (0, u "(II)I"), (0, .methodref 107 638), (0, .nameAndType 635 639), (0, u "([BIII)I"), (125, u "(I)I"), (244, u "([C)V"), (90, u "serialPersistentFields"), (0, u "[Ljava/io/ObjectStreamField;"), (0, .class_ 1104), (0, u "java/lang/String$CaseInsensitiveComparator"), (1, .class_ 1107), (0, u "java/io/Serializable"), (0, .class_ 1109), (0, u "java/lang/Comparable"), (0, .class_ 1111), (0, u "java/lang/constant/Constable"), (0, .class_ 1113), (0, u "java/lang/constant/ConstantDesc"), (2, u "serialVersionUID"), (0, u "J"), (3, u "REPL"), (0, u "C"), (2, u "LATIN1"), (1, u "UTF16")] 323

def k9m0 : Method := { name := "<init>", desc := "()V", sig := { parameters := [], returnType := none }, accessFlags := 1, code := none }
def k9c1 : Code := { maxStack := 5, maxLocals := 2, code := jdk_42_method_3_code, exceptionTable := #[], attributes := #[] }
def k9m1 : Method := { name := "<init>", desc := "([C)V", sig := { parameters := [(.array .char)], returnType := none }, accessFlags := 1, code := some k9c1 }
def k9c2 : Code := { maxStack := 2, maxLocals := 1, code := jdk_42_method_54_code, exceptionTable := #[], attributes := #[] }
def k9m2 : Method := { name := "length", desc := "()I", sig := { parameters := [], returnType := some .int }, accessFlags := 1, code := some k9c2 }
def k9c3 : Code := { maxStack := 3, maxLocals := 2, code := jdk_42_method_79_code, exceptionTable := #[], attributes := #[] }
def k9m3 : Method := { name := "indexOf", desc := "(I)I", sig := { parameters := [.int], returnType := some .int }, accessFlags := 1, code := some k9c3 }
def k9c4 : Code := { maxStack := 4, maxLocals := 3, code := jdk_42_method_80_code, exceptionTable := #[], attributes := #[] }
def k9m4 : Method := { name := "indexOf", desc := "(II)I", sig := { parameters := [.int, .int], returnType := some .int }, accessFlags := 1, code := some k9c4 }
def k9c5 : Code := { maxStack := 4, maxLocals := 6, code := jdk_42_method_149_code, exceptionTable := #[], attributes := #[] }
def k9m5 : Method := { name := "<init>", desc := "([CIILjava/lang/Void;)V", sig := { parameters := [(.array .char), .int, .int, (.object "java/lang/Void")], returnType := none }, accessFlags := 2, code := some k9c5 }
def k9c6 : Code := { maxStack := 1, maxLocals := 1, code := jdk_42_method_152_code, exceptionTable := #[], attributes := #[] }
def k9m6 : Method := { name := "coder", desc := "()B", sig := { parameters := [], returnType := some .byte }, accessFlags := 0, code := some k9c6 }
def k9c7 : Code := { maxStack := 1, maxLocals := 1, code := jdk_42_method_154_code, exceptionTable := #[], attributes := #[] }
def k9m7 : Method := { name := "isLatin1", desc := "()Z", sig := { parameters := [], returnType := some .boolean }, accessFlags := 0, code := some k9c7 }
/-- java/lang/String -/
def k9 : Class := { plain "java/lang/String" (some 0) with
  accessFlags := 49
  interfaces := #[4, 3, 7, 2, 8]
  cf := some (fileOf pool9 10 #[.nestMembers #[1103]] #[{ accessFlags := 1, nameIndex := 5, descriptorIndex := 6, attributes := #[] }, { accessFlags := 1, nameIndex := 5, descriptorIndex := 1010, attributes := #[] }, { accessFlags := 1, nameIndex := 507, descriptorIndex := 334, attributes := #[] }, { accessFlags := 1, nameIndex := 635, descriptorIndex := 765, attributes := #[] }, { accessFlags := 1, nameIndex := 635, descriptorIndex := 636, attributes := #[] }, { accessFlags := 2, nameIndex := 5, descriptorIndex := 29, attributes := #[] }, { accessFlags := 0, nameIndex := 17, descriptorIndex := 337, attributes := #[] }, { accessFlags := 0, nameIndex := 494, descriptorIndex := 142, attributes := #[] }] 49 2 #[1106, 1108, 575, 1110, 1112] #[{ accessFlags := 18, nameIndex := 13, descriptorIndex := 14, attributes := #[] }, { accessFlags := 18, nameIndex := 17, descriptorIndex := 18, attributes := #[] }, { accessFlags := 2, nameIndex := 21, descriptorIndex := 22, attributes := #[] }, { accessFlags := 2, nameIndex := 25, descriptorIndex := 26, attributes := #[] }, { accessFlags := 26, nameIndex := 1116, descriptorIndex := 1117, attributes := #[] }, { accessFlags := 24, nameIndex := 40, descriptorIndex := 26, attributes := #[] }, { accessFlags := 26, nameIndex := 1101, descriptorIndex := 1102, attributes := #[] }, { accessFlags := 26, nameIndex := 1121, descriptorIndex := 1122, attributes := #[] }, { accessFlags := 25, nameIndex := 599, descriptorIndex := 600, attributes := #[] }, { accessFlags := 24, nameIndex := 1125, descriptorIndex := 18, attributes := #[] }, { accessFlags := 24, nameIndex := 1127, descriptorIndex := 18, attributes := #[] }])
  fields := #[{ name := "value", type := (.array .byte), accessFlags := 18, slot := 0, constantValue := 0 }, { name := "coder", type := .byte, accessFlags := 18, slot := 1, constantValue := 0 }, { name := "hash", type := .int, accessFlags := 2, slot := 2, constantValue := 0 }, { name := "hashIsZero", type := .boolean, accessFlags := 2, slot := 3, constantValue := 0 }, { name := "serialVersionUID", type := .long, accessFlags := 26, slot := 0, constantValue := 0 }, { name := "COMPACT_STRINGS", type := .boolean, accessFlags := 24, slot := 1, constantValue := 0 }, { name := "serialPersistentFields", type := (.array (.object "java/io/ObjectStreamField")), accessFlags := 26, slot := 2, constantValue := 0 }, { name := "REPL", type := .char, accessFlags := 26, slot := 3, constantValue := 0 }, { name := "CASE_INSENSITIVE_ORDER", type := (.object "java/util/Comparator"), accessFlags := 25, slot := 4, constantValue := 0 }, { name := "LATIN1", type := .byte, accessFlags := 24, slot := 5, constantValue := 0 }, { name := "UTF16", type := .byte, accessFlags := 24, slot := 6, constantValue := 0 }]
  methods := #[k9m0, k9m1, k9m2, k9m3, k9m4, k9m5, k9m6, k9m7]
  instanceTypes := #[(.array .byte), .byte, .int, .boolean]
  staticTypes := #[.long, .boolean, (.array (.object "java/io/ObjectStreamField")), .char, (.object "java/util/Comparator"), .byte, .byte]
  resolved := Array.replicate 1451 none
  statics := some 1 }

def pool10 : Array CpInfo := pool [(6, .class_ 8), (1, u "java/lang/Object"), (0, u "<init>"), (0, u "()V"), (1, .class_ 14), (1, u "java/lang/StringUTF16"), (31, u "$assertionsDisabled"), (0, u "Z"), (13, u "HI_BYTE_SHIFT"), (0, u "I"), (2, u "LO_BYTE_SHIFT"), (49, .methodref 12 116), (0, .nameAndType 117 118), (0, u "compress"), (0, u "([CI[BII)I"), (3, u "([CII)[B"), (138, u "coderFromArrayLen"), (0, u "([BI)B"), (106, .class_ 371), (1, u "java/lang/StringUTF16$LinesSpliterator"), (58, u "MAX_LENGTH"), (196, .class_ 628), (0, u "java/lang/StringUTF16$CodePointsSpliterator"), (0, .class_ 630), (0, u "java/lang/StringUTF16$CharsSpliterator")] 4

def k10m0 : Method := { name := "<init>", desc := "()V", sig := { parameters := [], returnType := none }, accessFlags := 0, code := none }
def k10c1 : Code := { maxStack := 2, maxLocals := 2, code := jdk_52_method_15_code, exceptionTable := #[], attributes := #[] }
def k10m1 : Method := { name := "coderFromArrayLen", desc := "([BI)B", sig := { parameters := [(.array .byte), .int], returnType := some .byte }, accessFlags := 8, code := some k10c1 }
def k10c2 : Code := { maxStack := 5, maxLocals := 6, code := jdk_52_method_16_code, exceptionTable := #[], attributes := #[] }
def k10m2 : Method := { name := "compress", desc := "([CII)[B", sig := { parameters := [(.array .char), .int, .int], returnType := some (.array .byte) }, accessFlags := 9, code := some k10c2 }
def k10c3 : Code := { maxStack := 3, maxLocals := 7, code := jdk_52_method_21_code, exceptionTable := #[], attributes := #[] }
def k10m3 : Method := { name := "compress", desc := "([CI[BII)I", sig := { parameters := [(.array .char), .int, (.array .byte), .int, .int], returnType := some .int }, accessFlags := 9, code := some k10c3 }
/-- java/lang/StringUTF16 -/
def k10 : Class := { plain "java/lang/StringUTF16" (some 0) with
  accessFlags := 48
  interfaces := #[]
  cf := some (fileOf pool10 12 #[.nestMembers #[627, 629, 369]] #[{ accessFlags := 0, nameIndex := 9, descriptorIndex := 10, attributes := #[] }, { accessFlags := 8, nameIndex := 261, descriptorIndex := 262, attributes := #[] }, { accessFlags := 9, nameIndex := 117, descriptorIndex := 122, attributes := #[] }, { accessFlags := 9, nameIndex := 117, descriptorIndex := 118, attributes := #[] }] 48 6 #[] #[{ accessFlags := 26, nameIndex := 61, descriptorIndex := 62, attributes := #[] }, { accessFlags := 26, nameIndex := 65, descriptorIndex := 62, attributes := #[] }, { accessFlags := 24, nameIndex := 430, descriptorIndex := 62, attributes := #[] }, { accessFlags := 4120, nameIndex := 46, descriptorIndex := 47, attributes := #[] }])
  fields := #[{ name := "HI_BYTE_SHIFT", type := .int, accessFlags := 26, slot := 0, constantValue := 0 }, { name := "LO_BYTE_SHIFT", type := .int, accessFlags := 26, slot := 1, constantValue := 0 }, { name := "MAX_LENGTH", type := .int, accessFlags := 24, slot := 2, constantValue := 0 }, { name := "$assertionsDisabled", type := .boolean, accessFlags := 4120, slot := 3, constantValue := 0 }]
  methods := #[k10m0, k10m1, k10m2, k10m3]
  instanceTypes := #[]
  staticTypes := #[.int, .int, .int, .boolean]
  resolved := Array.replicate 635 none
  statics := none }

def pool11 : Array CpInfo := pool [(4, .class_ 6), (1, u "java/lang/Object"), (0, u "<init>"), (0, u "()V"), (5, .class_ 16), (1, u "java/lang/StringLatin1"), (21, .methodref 39 40), (0, .class_ 41), (0, .nameAndType 42 43), (0, u "java/lang/Math"), (0, u "min"), (0, u "(II)I"), (44, .methodref 14 89), (0, .nameAndType 90 91), (0, u "canEncode"), (0, u "(I)Z"), (0, .methodref 39 93), (0, .nameAndType 94 43), (0, u "max"), (0, .methodref 14 96), (0, .nameAndType 97 98), (0, u "indexOfChar"), (0, u "([BIII)I"), (2, u "indexOf"), (19, u "$assertionsDisabled"), (0, u "Z"), (98, .class_ 223), (1, u "java/lang/StringLatin1$LinesSpliterator"), (166, .class_ 391), (0, u "java/lang/StringLatin1$CharsSpliterator")] 3

def k11m0 : Method := { name := "<init>", desc := "()V", sig := { parameters := [], returnType := none }, accessFlags := 0, code := none }
def k11c1 : Code := { maxStack := 2, maxLocals := 1, code := jdk_43_method_4_code, exceptionTable := #[], attributes := #[] }
def k11m1 : Method := { name := "canEncode", desc := "(I)Z", sig := { parameters := [.int], returnType := some .boolean }, accessFlags := 9, code := some k11c1 }
def k11c2 : Code := { maxStack := 4, maxLocals := 4, code := jdk_43_method_22_code, exceptionTable := #[], attributes := #[] }
def k11m2 : Method := { name := "indexOf", desc := "([BIII)I", sig := { parameters := [(.array .byte), .int, .int, .int], returnType := some .int }, accessFlags := 9, code := some k11c2 }
def k11c3 : Code := { maxStack := 2, maxLocals := 6, code := jdk_43_method_23_code, exceptionTable := #[], attributes := #[] }
def k11m3 : Method := { name := "indexOfChar", desc := "([BIII)I", sig := { parameters := [(.array .byte), .int, .int, .int], returnType := some .int }, accessFlags := 10, code := some k11c3 }
/-- java/lang/StringLatin1 -/
def k11 : Class := { plain "java/lang/StringLatin1" (some 0) with
  accessFlags := 48
  interfaces := #[]
  cf := some (fileOf pool11 14 #[.nestMembers #[390, 221]] #[{ accessFlags := 0, nameIndex := 7, descriptorIndex := 8, attributes := #[] }, { accessFlags := 9, nameIndex := 90, descriptorIndex := 91, attributes := #[] }, { accessFlags := 9, nameIndex := 101, descriptorIndex := 98, attributes := #[] }, { accessFlags := 10, nameIndex := 97, descriptorIndex := 98, attributes := #[] }] 48 4 #[] #[{ accessFlags := 4120, nameIndex := 121, descriptorIndex := 122, attributes := #[] }])
  fields := #[{ name := "$assertionsDisabled", type := .boolean, accessFlags := 4120, slot := 0, constantValue := 0 }]
  methods := #[k11m0, k11m1, k11m2, k11m3]
  instanceTypes := #[]
  staticTypes := #[.boolean]
  resolved := Array.replicate 395 none
  statics := none }

def pool12 : Array CpInfo := pool [(1, .class_ 2), (0, u "java/lang/Math"), (1, .class_ 6), (1, u "java/lang/Object"), (0, u "<init>"), (0, u "()V"), (89, .class_ 100), (1, u "java/lang/Math$RandomNumberGeneratorHolder"), (71, u "negativeZeroFloatBits"), (0, u "J"), (2, u "negativeZeroDoubleBits"), (21, u "max"), (2, u "min"), (43, u "$assertionsDisabled"), (0, u "Z"), (88, u "(II)I"), (2, u "twoToTheDoubleScaleDown"), (0, u "D"), (4, u "twoToTheDoubleScaleUp"), (9, u "E"), (3, u "PI"), (2, u "TAU"), (2, u "DEGREES_TO_RADIANS"), (0, u "RADIANS_TO_DEGREES")] 94

def k12m0 : Method := { name := "<init>", desc := "()V", sig := { parameters := [], returnType := none }, accessFlags := 2, code := none }
def k12c1 : Code := { maxStack := 2, maxLocals := 2, code := jdk_29_method_65_code, exceptionTable := #[], attributes := #[] }
def k12m1 : Method := { name := "max", desc := "(II)I", sig := { parameters := [.int, .int], returnType := some .int }, accessFlags := 9, code := some k12c1 }
def k12c2 : Code := { maxStack := 2, maxLocals := 2, code := jdk_29_method_69_code, exceptionTable := #[], attributes := #[] }
def k12m2 : Method := { name := "min", desc := "(II)I", sig := { parameters := [.int, .int], returnType := some .int }, accessFlags := 9, code := some k12c2 }
/-- java/lang/Math -/
def k12 : Class := { plain "java/lang/Math" (some 0) with
  accessFlags := 49
  interfaces := #[]
  cf := some (fileOf pool12 1 #[.nestMembers #[98]] #[{ accessFlags := 2, nameIndex := 7, descriptorIndex := 8, attributes := #[] }, { accessFlags := 9, nameIndex := 198, descriptorIndex := 335, attributes := #[] }, { accessFlags := 9, nameIndex := 201, descriptorIndex := 335, attributes := #[] }] 49 4 #[] #[{ accessFlags := 25, nameIndex := 354, descriptorIndex := 339, attributes := #[] }, { accessFlags := 25, nameIndex := 358, descriptorIndex := 339, attributes := #[] }, { accessFlags := 25, nameIndex := 361, descriptorIndex := 339, attributes := #[] }, { accessFlags := 26, nameIndex := 364, descriptorIndex := 339, attributes := #[] }, { accessFlags := 26, nameIndex := 365, descriptorIndex := 339, attributes := #[] }, { accessFlags := 26, nameIndex := 172, descriptorIndex := 173, attributes := #[] }, { accessFlags := 26, nameIndex := 176, descriptorIndex := 173, attributes := #[] }, { accessFlags := 8, nameIndex := 344, descriptorIndex := 339, attributes := #[] }, { accessFlags := 8, nameIndex := 338, descriptorIndex := 339, attributes := #[] }, { accessFlags := 4120, nameIndex := 245, descriptorIndex := 246, attributes := #[] }])
  fields := #[{ name := "E", type := .double, accessFlags := 25, slot := 0, constantValue := 0 }, { name := "PI", type := .double, accessFlags := 25, slot := 1, constantValue := 0 }, { name := "TAU", type := .double, accessFlags := 25, slot := 2, constantValue := 0 }, { name := "DEGREES_TO_RADIANS", type := .double, accessFlags := 26, slot := 3, constantValue := 0 }, { name := "RADIANS_TO_DEGREES", type := .double, accessFlags := 26, slot := 4, constantValue := 0 }, { name := "negativeZeroFloatBits", type := .long, accessFlags := 26, slot := 5, constantValue := 0 }, { name := "negativeZeroDoubleBits", type := .long, accessFlags := 26, slot := 6, constantValue := 0 }, { name := "twoToTheDoubleScaleUp", type := .double, accessFlags := 8, slot := 7, constantValue := 0 }, { name := "twoToTheDoubleScaleDown", type := .double, accessFlags := 8, slot := 8, constantValue := 0 }, { name := "$assertionsDisabled", type := .boolean, accessFlags := 4120, slot := 9, constantValue := 0 }]
  methods := #[k12m0, k12m1, k12m2]
  instanceTypes := #[]
  staticTypes := #[.double, .double, .double, .double, .double, .long, .long, .double, .double, .boolean]
  resolved := Array.replicate 460 none
  statics := none }

def pool13 : Array CpInfo := pool [(2, .class_ 4), (1, u "java/lang/Object"), (0, u "<init>"), (0, u "()V"), (17, .class_ 26), (1, u "jdk/internal/util/Preconditions"), (28, .class_ 56), (0, u "jdk/internal/util/Preconditions$4"), (57, .class_ 115), (0, u "jdk/internal/util/Preconditions$1"), (7, u "SIOOBE_FORMATTER"), (0, u "Ljava/util/function/BiFunction;"), (0, .class_ 126), (0, u "jdk/internal/util/Preconditions$2"), (3, u "AIOOBE_FORMATTER"), (0, .class_ 132), (0, u "jdk/internal/util/Preconditions$3"), (3, u "IOOBE_FORMATTER")] 57

def k13m0 : Method := { name := "<init>", desc := "()V", sig := { parameters := [], returnType := none }, accessFlags := 1, code := none }
/-- jdk/internal/util/Preconditions -/
def k13 : Class := { plain "jdk/internal/util/Preconditions" (some 0) with
  accessFlags := 33
  interfaces := #[]
  cf := some (fileOf pool13 24 #[.nestMembers #[55, 131, 125, 114]] #[{ accessFlags := 1, nameIndex := 5, descriptorIndex := 6, attributes := #[] }] 33 2 #[] #[{ accessFlags := 25, nameIndex := 123, descriptorIndex := 124, attributes := #[] }, { accessFlags := 25, nameIndex := 130, descriptorIndex := 124, attributes := #[] }, { accessFlags := 25, nameIndex := 136, descriptorIndex := 124, attributes := #[] }])
  fields := #[{ name := "SIOOBE_FORMATTER", type := (.object "java/util/function/BiFunction"), accessFlags := 25, slot := 0, constantValue := 0 }, { name := "AIOOBE_FORMATTER", type := (.object "java/util/function/BiFunction"), accessFlags := 25, slot := 1, constantValue := 0 }, { name := "IOOBE_FORMATTER", type := (.object "java/util/function/BiFunction"), accessFlags := 25, slot := 2, constantValue := 0 }]
  methods := #[k13m0]
  instanceTypes := #[]
  staticTypes := #[(.object "java/util/function/BiFunction"), (.object "java/util/function/BiFunction"), (.object "java/util/function/BiFunction")]
  resolved := Array.replicate 194 none
  statics := some 2 }

def pool14 : Array CpInfo := pool [(9, u "<init>"), (6, .class_ 18), (1, u "java/lang/Object"), (0, u "()V"), (1, .class_ 23), (1, u "jdk/internal/util/ArraysSupport"), (0, u "LOG2_ARRAY_LONG_INDEX_SCALE"), (0, u "I"), (2, u "U"), (0, u "Ljdk/internal/misc/Unsafe;"), (8, u "BIG_ENDIAN"), (0, u "Z"), (8, u "LOG2_BYTE_BIT_SIZE"), (4, u "LOG2_ARRAY_INT_INDEX_SCALE"), (54, u "JLA"), (0, u "Ljdk/internal/access/JavaLangAccess;"), (11, u "LOG2_ARRAY_BOOLEAN_INDEX_SCALE"), (9, u "LOG2_ARRAY_BYTE_INDEX_SCALE"), (5, u "LOG2_ARRAY_CHAR_INDEX_SCALE"), (5, u "LOG2_ARRAY_SHORT_INDEX_SCALE"), (18, u "LOG2_ARRAY_FLOAT_INDEX_SCALE"), (24, u "LOG2_ARRAY_DOUBLE_INDEX_SCALE"), (89, u "T_BOOLEAN"), (2, u "T_CHAR"), (1, u "T_FLOAT"), (1, u "T_DOUBLE"), (1, u "T_BYTE"), (1, u "T_SHORT"), (1, u "T_INT"), (1, u "T_LONG"), (1, u "SOFT_MAX_ARRAY_LENGTH")] 83

def k14m0 : Method := { name := "<init>", desc := "()V", sig := { parameters := [], returnType := none }, accessFlags := 2, code := none }
/-- jdk/internal/util/ArraysSupport -/
def k14 : Class := { plain "jdk/internal/util/ArraysSupport" (some 0) with
  accessFlags := 33
  interfaces := #[]
  cf := some (fileOf pool14 21 #[] #[{ accessFlags := 2, nameIndex := 9, descriptorIndex := 19, attributes := #[] }] 33 16 #[] #[{ accessFlags := 24, nameIndex := 28, descriptorIndex := 29, attributes := #[] }, { accessFlags := 26, nameIndex := 38, descriptorIndex := 39, attributes := #[] }, { accessFlags := 25, nameIndex := 121, descriptorIndex := 25, attributes := #[] }, { accessFlags := 25, nameIndex := 131, descriptorIndex := 25, attributes := #[] }, { accessFlags := 25, nameIndex := 137, descriptorIndex := 25, attributes := #[] }, { accessFlags := 25, nameIndex := 143, descriptorIndex := 25, attributes := #[] }, { accessFlags := 25, nameIndex := 53, descriptorIndex := 25, attributes := #[] }, { accessFlags := 25, nameIndex := 24, descriptorIndex := 25, attributes := #[] }, { accessFlags := 25, nameIndex := 162, descriptorIndex := 25, attributes := #[] }, { accessFlags := 25, nameIndex := 187, descriptorIndex := 25, attributes := #[] }, { accessFlags := 26, nameIndex := 48, descriptorIndex := 25, attributes := #[] }, { accessFlags := 25, nameIndex := 277, descriptorIndex := 25, attributes := #[] }, { accessFlags := 25, nameIndex := 280, descriptorIndex := 25, attributes := #[] }, { accessFlags := 25, nameIndex := 282, descriptorIndex := 25, attributes := #[] }, { accessFlags := 25, nameIndex := 284, descriptorIndex := 25, attributes := #[] }, { accessFlags := 25, nameIndex := 286, descriptorIndex := 25, attributes := #[] }, { accessFlags := 25, nameIndex := 288, descriptorIndex := 25, attributes := #[] }, { accessFlags := 25, nameIndex := 290, descriptorIndex := 25, attributes := #[] }, { accessFlags := 25, nameIndex := 292, descriptorIndex := 25, attributes := #[] }, { accessFlags := 26, nameIndex := 108, descriptorIndex := 109, attributes := #[] }, { accessFlags := 25, nameIndex := 294, descriptorIndex := 25, attributes := #[] }])
  fields := #[{ name := "U", type := (.object "jdk/internal/misc/Unsafe"), accessFlags := 24, slot := 0, constantValue := 0 }, { name := "BIG_ENDIAN", type := .boolean, accessFlags := 26, slot := 1, constantValue := 0 }, { name := "LOG2_ARRAY_BOOLEAN_INDEX_SCALE", type := .int, accessFlags := 25, slot := 2, constantValue := 0 }, { name := "LOG2_ARRAY_BYTE_INDEX_SCALE", type := .int, accessFlags := 25, slot := 3, constantValue := 0 }, { name := "LOG2_ARRAY_CHAR_INDEX_SCALE", type := .int, accessFlags := 25, slot := 4, constantValue := 0 }, { name := "LOG2_ARRAY_SHORT_INDEX_SCALE", type := .int, accessFlags := 25, slot := 5, constantValue := 0 }, { name := "LOG2_ARRAY_INT_INDEX_SCALE", type := .int, accessFlags := 25, slot := 6, constantValue := 0 }, { name := "LOG2_ARRAY_LONG_INDEX_SCALE", type := .int, accessFlags := 25, slot := 7, constantValue := 0 }, { name := "LOG2_ARRAY_FLOAT_INDEX_SCALE", type := .int, accessFlags := 25, slot := 8, constantValue := 0 }, { name := "LOG2_ARRAY_DOUBLE_INDEX_SCALE", type := .int, accessFlags := 25, slot := 9, constantValue := 0 }, { name := "LOG2_BYTE_BIT_SIZE", type := .int, accessFlags := 26, slot := 10, constantValue := 0 }, { name := "T_BOOLEAN", type := .int, accessFlags := 25, slot := 11, constantValue := 0 }, { name := "T_CHAR", type := .int, accessFlags := 25, slot := 12, constantValue := 0 }, { name := "T_FLOAT", type := .int, accessFlags := 25, slot := 13, constantValue := 0 }, { name := "T_DOUBLE", type := .int, accessFlags := 25, slot := 14, constantValue := 0 }, { name := "T_BYTE", type := .int, accessFlags := 25, slot := 15, constantValue := 0 }, { name := "T_SHORT", type := .int, accessFlags := 25, slot := 16, constantValue := 0 }, { name := "T_INT", type := .int, accessFlags := 25, slot := 17, constantValue := 0 }, { name := "T_LONG", type := .int, accessFlags := 25, slot := 18, constantValue := 0 }, { name := "JLA", type := (.object "jdk/internal/access/JavaLangAccess"), accessFlags := 26, slot := 19, constantValue := 0 }, { name := "SOFT_MAX_ARRAY_LENGTH", type := .int, accessFlags := 25, slot := 20, constantValue := 0 }]
  methods := #[k14m0]
  instanceTypes := #[]
  staticTypes := #[(.object "jdk/internal/misc/Unsafe"), .boolean, .int, .int, .int, .int, .int, .int, .int, .int, .int, .int, .int, .int, .int, .int, .int, .int, .int, (.object "jdk/internal/access/JavaLangAccess"), .int]
  resolved := Array.replicate 378 none
  statics := none }

def pool15 : Array CpInfo := pool [(1, u "java/lang/Cloneable"), (0, .class_ 1), (0, u "java/lang/Object"), (0, .class_ 3)] 3

/-- java/lang/Cloneable -/
def k15 : Class := { plain "java/lang/Cloneable" (some 0) with
  accessFlags := 1537
  interfaces := #[]
  cf := some (fileOf pool15 2 #[] #[] 1537 4 #[] #[])
  fields := #[]
  methods := #[]
  instanceTypes := #[]
  staticTypes := #[]
  resolved := Array.replicate 8 none
  statics := none }

/-- the primitive byte -/
def k16 : Class := { plain "byte" none with kind := .primitive 'B', accessFlags := 0x411 }
/-- [B -/
def k17 : Class := { plain "[B" (some 0) with kind := .array 16 .byte, interfaces := #[15, 4], accessFlags := 1041 }

/-- the primitive char -/
def k18 : Class := { plain "char" none with kind := .primitive 'C', accessFlags := 0x411 }
/-- [C -/
def k19 : Class := { plain "[C" (some 0) with kind := .array 18 .char, interfaces := #[15, 4], accessFlags := 1041 }

/-- the primitive int -/
def k20 : Class := { plain "int" none with kind := .primitive 'I', accessFlags := 0x411 }
/-- [I -/
def k21 : Class := { plain "[I" (some 0) with kind := .array 20 .int, interfaces := #[15, 4], accessFlags := 1041 }

def heap : Heap := #[{ cls := 6, slots := #[.ref 3, .ref 4, .null], vm := .statics 6 },
  { cls := 9, slots := #[.long 0, .int 1, .null, .int 0, .null, .int 0, .int 0], vm := .statics 9 },
  { cls := 13, slots := #[.null, .null, .null], vm := .statics 13 },
  { cls := 6, slots := #[.null, .int 0, .int 0, .null, .int 34], vm := .none },
  { cls := 6, slots := #[.null, .int 1, .int 0, .null, .int 92], vm := .none }]
def classes : Array Class := #[k0, k1, k2, k3, k4, k5, k6, k7, k8, k9, k10, k11, k12, k13, k14, k15, k16, k17, k18, k19, k20, k21]
def interned : List (Array UInt16 × Addr) := []
def slotsUsed : Nat := 23
def theMethod : MethodId := ⟨1, 3⟩
def args0 : Array Value := #[.int 5, .int 2, .int 1, .int 9, .int 77]
def aboutOver (below : List Frame) : State where
  vm := { classes := classes, interned := interned.toArray }
  heap := heap
  slotsUsed := slotsUsed
  threads := #[{ frames := .invoking theMethod args0 :: below }]
def below0 : List Frame := [.native { method := ⟨0, 0⟩, args := #[] }]
def about1 : State := aboutOver below0
def p0 : Program := .bare "" "" ""
def e0 : Env := launch0.env 0 0 0
theorem w_frames : about1.frames = Frame.invoking theMethod args0 :: below0 := rfl
set_option maxRecDepth 65536 in
theorem w_args : argsFit about1.vm theMethod args0 = true := by decide +kernel
set_option maxRecDepth 65536 in
theorem w_heap : heapFits about1 = true := by decide +kernel
set_option maxRecDepth 65536 in
theorem w_runnable : about1.curStatus? = some .runnable := by decide +kernel
set_option maxRecDepth 65536 in
theorem w_alone : about1.alone = true := by decide +kernel
set_option maxRecDepth 65536 in
theorem w_named : about1.methodNamed? x = some theMethod := by decide +kernel
set_option maxRecDepth 65536 in
theorem w_hears : about1.hears theMethod below0 = true := by decide +kernel
set_option maxRecDepth 65536 in
theorem w_ripe : about1.ripe theMethod args0 below0 = true := by decide +kernel
theorem w_running : about1.status = .running := rfl
set_option maxRecDepth 65536 in
theorem w_room : about1.hasRoom e0.platform room_1 = true :=
  launch0.hasRoom_least _ room_1 (by decide +kernel) (by decide +kernel) (by decide +kernel) (by decide +kernel) (by decide +kernel) (by decide +kernel)
theorem allAtoms_all (ts : List Jvm.Cond) (a : Array Jvm.Value) (st : Jvm.State) : (allAtoms ts).before a st = ts.all (fun c => c.before a st) := by
  induction ts with
  | nil => rfl
  | cons c t ih =>
    show (Jvm.Cond.and c (allAtoms t)).before a st = _
    rw [Jvm.Cond.before_and, ih, List.all_cons]
def words1 : List Jvm.Cond := Jvm.Cond.code x code maxLocals ret :: tables_1
/-- a 'code' word, met by the world's own term for the bytes: nothing is compared byte by byte -/
theorem code_word {y : MethodName} {bytes : ByteArray} {mx : Nat} {rt : Option FieldType} {a : Array Value} {s : State} {m : MethodId} {meth : Method} {c : Code} (h1 : s.methodNamed? y = some m) (h2 : s.vm.method? m = some meth) (h3 : meth.code = some c) (h4 : c.code = bytes)
    (h5 : (c.maxLocals == mx && c.exceptionTable.isEmpty && decide (c.maxStack ≤ mostOperands) && decide (meth.sig.returnType = rt) && !meth.locks && decide (parseMethodDescriptor y.desc = some meth.sig)) = true) : (Jvm.Cond.code y bytes mx rt).before a s = true := by
  simp only [Bool.and_eq_true, beq_iff_eq, Bool.not_eq_true', decide_eq_true_eq] at h5
  obtain ⟨⟨⟨⟨⟨g1, g2⟩, g3⟩, g4⟩, g5⟩, g6⟩ := h5
  simp [Cond.before, Cond.holds, Cond.value, h1, h2, h3, h4, g1, g2, g3, g4, g5, g6]
def isCode : Jvm.Cond → Bool
  | .code _ _ _ _ => true
  | _ => false
theorem all_split {L : List Jvm.Cond} {P : Jvm.Cond → Bool} (h1 : L.all (fun c => isCode c || P c) = true) (h2 : ∀ c ∈ L.filter isCode, P c = true) : L.all P = true := by
  refine List.all_eq_true.mpr fun c hc => ?_
  have h := List.all_eq_true.mp h1 c hc
  rcases Bool.eq_false_or_eq_true (isCode c) with hi | hi
  · exact h2 c (List.mem_filter.mpr ⟨hc, hi⟩)
  · simpa [hi] using h
set_option maxRecDepth 65536 in
theorem w_c0 : (Jvm.Cond.code x code maxLocals ret).before args0 about1 = true := code_word (m := ⟨1, 3⟩) (meth := k1m3) (c := k1c3) (by decide +kernel) rfl rfl rfl (by decide +kernel)
set_option maxRecDepth 65536 in
theorem w_c1 : (Jvm.Cond.code ({ cls := "com/example/cubeset/cubeset/sql/SessionSettingMayChangeReadingOfPinLaw", name := "pick", desc := "(I)C" } : Jvm.MethodName) method_2_code (2 : Nat) (Option.some Jvm.ClassFile.FieldType.char)).before args0 about1 = true := code_word (m := ⟨1, 1⟩) (meth := k1m1) (c := k1c1) (by decide +kernel) rfl rfl rfl (by decide +kernel)
set_option maxRecDepth 65536 in
theorem w_c2 : (Jvm.Cond.code ({ cls := "com/example/cubeset/cubeset/sql/SessionSettingMayChangeReadingOfPinLaw", name := "build", desc := "(ICCC)Ljava/lang/String;" } : Jvm.MethodName) method_3_code (4 : Nat) (Option.some (Jvm.ClassFile.FieldType.object "java/lang/String"))).before args0 about1 = true := code_word (m := ⟨1, 2⟩) (meth := k1m2) (c := k1c2) (by decide +kernel) rfl rfl rfl (by decide +kernel)
set_option maxRecDepth 65536 in
theorem w_c3 : (Jvm.Cond.code ({ cls := "java/lang/String", name := "<init>", desc := "([C)V" } : Jvm.MethodName) jdk_42_method_3_code (2 : Nat) (Option.none : Option Jvm.ClassFile.FieldType)).before args0 about1 = true := code_word (m := ⟨9, 1⟩) (meth := k9m1) (c := k9c1) (by decide +kernel) rfl rfl rfl (by decide +kernel)
set_option maxRecDepth 65536 in
theorem w_c4 : (Jvm.Cond.code ({ cls := "java/lang/String", name := "<init>", desc := "([CIILjava/lang/Void;)V" } : Jvm.MethodName) jdk_42_method_149_code (6 : Nat) (Option.none : Option Jvm.ClassFile.FieldType)).before args0 about1 = true := code_word (m := ⟨9, 5⟩) (meth := k9m5) (c := k9c5) (by decide +kernel) rfl rfl rfl (by decide +kernel)
set_option maxRecDepth 65536 in
theorem w_c5 : (Jvm.Cond.code ({ cls := "java/lang/Object", name := "<init>", desc := "()V" } : Jvm.MethodName) object_method_1_code (1 : Nat) (Option.none : Option Jvm.ClassFile.FieldType)).before args0 about1 = true := code_word (m := ⟨0, 0⟩) (meth := k0m0) (c := k0c0) (by decide +kernel) rfl rfl rfl (by decide +kernel)
set_option maxRecDepth 65536 in
theorem w_c6 : (Jvm.Cond.code ({ cls := "java/lang/StringUTF16", name := "compress", desc := "([CII)[B" } : Jvm.MethodName) jdk_52_method_16_code (6 : Nat) (Option.some (Jvm.ClassFile.FieldType.array Jvm.ClassFile.FieldType.byte))).before args0 about1 = true := code_word (m := ⟨10, 2⟩) (meth := k10m2) (c := k10c2) (by decide +kernel) rfl rfl rfl (by decide +kernel)
set_option maxRecDepth 65536 in
theorem w_c7 : (Jvm.Cond.code ({ cls := "java/lang/StringUTF16", name := "compress", desc := "([CI[BII)I" } : Jvm.MethodName) jdk_52_method_21_code (7 : Nat) (Option.some Jvm.ClassFile.FieldType.int)).before args0 about1 = true := code_word (m := ⟨10, 3⟩) (meth := k10m3) (c := k10c3) (by decide +kernel) rfl rfl rfl (by decide +kernel)
set_option maxRecDepth 65536 in
theorem w_c8 : (Jvm.Cond.code ({ cls := "java/lang/StringUTF16", name := "coderFromArrayLen", desc := "([BI)B" } : Jvm.MethodName) jdk_52_method_15_code (2 : Nat) (Option.some Jvm.ClassFile.FieldType.byte)).before args0 about1 = true := code_word (m := ⟨10, 1⟩) (meth := k10m1) (c := k10c1) (by decide +kernel) rfl rfl rfl (by decide +kernel)
set_option maxRecDepth 65536 in
theorem w_c9 : (Jvm.Cond.code ({ cls := "com/example/cubeset/cubeset/sql/SessionSetting", name := "mayChangeReadingOf", desc := "(Ljava/lang/String;)Z" } : Jvm.MethodName) prog_62_method_5_code (2 : Nat) (Option.some Jvm.ClassFile.FieldType.boolean)).before args0 about1 = true := code_word (m := ⟨6, 0⟩) (meth := k6m0) (c := k6c0) (by decide +kernel) rfl rfl rfl (by decide +kernel)
set_option maxRecDepth 65536 in
theorem w_c10 : (Jvm.Cond.code ({ cls := "java/lang/String", name := "indexOf", desc := "(I)I" } : Jvm.MethodName) jdk_42_method_79_code (2 : Nat) (Option.some Jvm.ClassFile.FieldType.int)).before args0 about1 = true := code_word (m := ⟨9, 3⟩) (meth := k9m3) (c := k9c3) (by decide +kernel) rfl rfl rfl (by decide +kernel)
set_option maxRecDepth 65536 in
theorem w_c11 : (Jvm.Cond.code ({ cls := "java/lang/String", name := "indexOf", desc := "(II)I" } : Jvm.MethodName) jdk_42_method_80_code (3 : Nat) (Option.some Jvm.ClassFile.FieldType.int)).before args0 about1 = true := code_word (m := ⟨9, 4⟩) (meth := k9m4) (c := k9c4) (by decide +kernel) rfl rfl rfl (by decide +kernel)
set_option maxRecDepth 65536 in
theorem w_c12 : (Jvm.Cond.code ({ cls := "java/lang/String", name := "isLatin1", desc := "()Z" } : Jvm.MethodName) jdk_42_method_154_code (1 : Nat) (Option.some Jvm.ClassFile.FieldType.boolean)).before args0 about1 = true := code_word (m := ⟨9, 7⟩) (meth := k9m7) (c := k9c7) (by decide +kernel) rfl rfl rfl (by decide +kernel)
set_option maxRecDepth 65536 in
theorem w_c13 : (Jvm.Cond.code ({ cls := "java/lang/String", name := "length", desc := "()I" } : Jvm.MethodName) jdk_42_method_54_code (1 : Nat) (Option.some Jvm.ClassFile.FieldType.int)).before args0 about1 = true := code_word (m := ⟨9, 2⟩) (meth := k9m2) (c := k9c2) (by decide +kernel) rfl rfl rfl (by decide +kernel)
set_option maxRecDepth 65536 in
theorem w_c14 : (Jvm.Cond.code ({ cls := "java/lang/String", name := "coder", desc := "()B" } : Jvm.MethodName) jdk_42_method_152_code (1 : Nat) (Option.some Jvm.ClassFile.FieldType.byte)).before args0 about1 = true := code_word (m := ⟨9, 6⟩) (meth := k9m6) (c := k9c6) (by decide +kernel) rfl rfl rfl (by decide +kernel)
set_option maxRecDepth 65536 in
theorem w_c15 : (Jvm.Cond.code ({ cls := "java/lang/StringLatin1", name := "indexOf", desc := "([BIII)I" } : Jvm.MethodName) jdk_43_method_22_code (4 : Nat) (Option.some Jvm.ClassFile.FieldType.int)).before args0 about1 = true := code_word (m := ⟨11, 2⟩) (meth := k11m2) (c := k11c2) (by decide +kernel) rfl rfl rfl (by decide +kernel)
set_option maxRecDepth 65536 in
theorem w_c16 : (Jvm.Cond.code ({ cls := "java/lang/StringLatin1", name := "canEncode", desc := "(I)Z" } : Jvm.MethodName) jdk_43_method_4_code (1 : Nat) (Option.some Jvm.ClassFile.FieldType.boolean)).before args0 about1 = true := code_word (m := ⟨11, 1⟩) (meth := k11m1) (c := k11c1) (by decide +kernel) rfl rfl rfl (by decide +kernel)
set_option maxRecDepth 65536 in
theorem w_c17 : (Jvm.Cond.code ({ cls := "java/lang/Math", name := "max", desc := "(II)I" } : Jvm.MethodName) jdk_29_method_65_code (2 : Nat) (Option.some Jvm.ClassFile.FieldType.int)).before args0 about1 = true := code_word (m := ⟨12, 1⟩) (meth := k12m1) (c := k12c1) (by decide +kernel) rfl rfl rfl (by decide +kernel)
set_option maxRecDepth 65536 in
theorem w_c18 : (Jvm.Cond.code ({ cls := "java/lang/Math", name := "min", desc := "(II)I" } : Jvm.MethodName) jdk_29_method_69_code (2 : Nat) (Option.some Jvm.ClassFile.FieldType.int)).before args0 about1 = true := code_word (m := ⟨12, 2⟩) (meth := k12m2) (c := k12c2) (by decide +kernel) rfl rfl rfl (by decide +kernel)
set_option maxRecDepth 65536 in
theorem w_c19 : (Jvm.Cond.code ({ cls := "java/lang/StringLatin1", name := "indexOfChar", desc := "([BIII)I" } : Jvm.MethodName) jdk_43_method_23_code (6 : Nat) (Option.some Jvm.ClassFile.FieldType.int)).before args0 about1 = true := code_word (m := ⟨11, 3⟩) (meth := k11m3) (c := k11c3) (by decide +kernel) rfl rfl rfl (by decide +kernel)
def codes1 : List Jvm.Cond := [Jvm.Cond.code x code maxLocals ret, Jvm.Cond.code ({ cls := "com/example/cubeset/cubeset/sql/SessionSettingMayChangeReadingOfPinLaw", name := "pick", desc := "(I)C" } : Jvm.MethodName) method_2_code (2 : Nat) (Option.some Jvm.ClassFile.FieldType.char), Jvm.Cond.code ({ cls := "com/example/cubeset/cubeset/sql/SessionSettingMayChangeReadingOfPinLaw", name := "build", desc := "(ICCC)Ljava/lang/String;" } : Jvm.MethodName) method_3_code (4 : Nat) (Option.some (Jvm.ClassFile.FieldType.object "java/lang/String")), Jvm.Cond.code ({ cls := "java/lang/String", name := "<init>", desc := "([C)V" } : Jvm.MethodName) jdk_42_method_3_code (2 : Nat) (Option.none : Option Jvm.ClassFile.FieldType), Jvm.Cond.code ({ cls := "java/lang/String", name := "<init>", desc := "([CIILjava/lang/Void;)V" } : Jvm.MethodName) jdk_42_method_149_code (6 : Nat) (Option.none : Option Jvm.ClassFile.FieldType), Jvm.Cond.code ({ cls := "java/lang/Object", name := "<init>", desc := "()V" } : Jvm.MethodName) object_method_1_code (1 : Nat) (Option.none : Option Jvm.ClassFile.FieldType), Jvm.Cond.code ({ cls := "java/lang/StringUTF16", name := "compress", desc := "([CII)[B" } : Jvm.MethodName) jdk_52_method_16_code (6 : Nat) (Option.some (Jvm.ClassFile.FieldType.array Jvm.ClassFile.FieldType.byte)), Jvm.Cond.code ({ cls := "java/lang/StringUTF16", name := "compress", desc := "([CI[BII)I" } : Jvm.MethodName) jdk_52_method_21_code (7 : Nat) (Option.some Jvm.ClassFile.FieldType.int), Jvm.Cond.code ({ cls := "java/lang/StringUTF16", name := "coderFromArrayLen", desc := "([BI)B" } : Jvm.MethodName) jdk_52_method_15_code (2 : Nat) (Option.some Jvm.ClassFile.FieldType.byte), Jvm.Cond.code ({ cls := "com/example/cubeset/cubeset/sql/SessionSetting", name := "mayChangeReadingOf", desc := "(Ljava/lang/String;)Z" } : Jvm.MethodName) prog_62_method_5_code (2 : Nat) (Option.some Jvm.ClassFile.FieldType.boolean), Jvm.Cond.code ({ cls := "java/lang/String", name := "indexOf", desc := "(I)I" } : Jvm.MethodName) jdk_42_method_79_code (2 : Nat) (Option.some Jvm.ClassFile.FieldType.int), Jvm.Cond.code ({ cls := "java/lang/String", name := "indexOf", desc := "(II)I" } : Jvm.MethodName) jdk_42_method_80_code (3 : Nat) (Option.some Jvm.ClassFile.FieldType.int), Jvm.Cond.code ({ cls := "java/lang/String", name := "isLatin1", desc := "()Z" } : Jvm.MethodName) jdk_42_method_154_code (1 : Nat) (Option.some Jvm.ClassFile.FieldType.boolean), Jvm.Cond.code ({ cls := "java/lang/String", name := "length", desc := "()I" } : Jvm.MethodName) jdk_42_method_54_code (1 : Nat) (Option.some Jvm.ClassFile.FieldType.int), Jvm.Cond.code ({ cls := "java/lang/String", name := "coder", desc := "()B" } : Jvm.MethodName) jdk_42_method_152_code (1 : Nat) (Option.some Jvm.ClassFile.FieldType.byte), Jvm.Cond.code ({ cls := "java/lang/StringLatin1", name := "indexOf", desc := "([BIII)I" } : Jvm.MethodName) jdk_43_method_22_code (4 : Nat) (Option.some Jvm.ClassFile.FieldType.int), Jvm.Cond.code ({ cls := "java/lang/StringLatin1", name := "canEncode", desc := "(I)Z" } : Jvm.MethodName) jdk_43_method_4_code (1 : Nat) (Option.some Jvm.ClassFile.FieldType.boolean), Jvm.Cond.code ({ cls := "java/lang/Math", name := "max", desc := "(II)I" } : Jvm.MethodName) jdk_29_method_65_code (2 : Nat) (Option.some Jvm.ClassFile.FieldType.int), Jvm.Cond.code ({ cls := "java/lang/Math", name := "min", desc := "(II)I" } : Jvm.MethodName) jdk_29_method_69_code (2 : Nat) (Option.some Jvm.ClassFile.FieldType.int), Jvm.Cond.code ({ cls := "java/lang/StringLatin1", name := "indexOfChar", desc := "([BIII)I" } : Jvm.MethodName) jdk_43_method_23_code (6 : Nat) (Option.some Jvm.ClassFile.FieldType.int)]
set_option maxRecDepth 65536 in
theorem codes_eq : words1.filter isCode = codes1 := rfl
theorem w_codes : ∀ c ∈ words1.filter isCode, c.before args0 about1 = true := by
  rw [codes_eq]
  intro c hc
  simp only [codes1, List.mem_cons, List.not_mem_nil, or_false] at hc
  rcases hc with rfl | rfl | rfl | rfl | rfl | rfl | rfl | rfl | rfl | rfl | rfl | rfl | rfl | rfl | rfl | rfl | rfl | rfl | rfl | rfl
  · exact w_c0
  · exact w_c1
  · exact w_c2
  · exact w_c3
  · exact w_c4
  · exact w_c5
  · exact w_c6
  · exact w_c7
  · exact w_c8
  · exact w_c9
  · exact w_c10
  · exact w_c11
  · exact w_c12
  · exact w_c13
  · exact w_c14
  · exact w_c15
  · exact w_c16
  · exact w_c17
  · exact w_c18
  · exact w_c19
set_option maxRecDepth 65536 in
theorem w_t1 : (words1.take 24).all (fun c => isCode c || c.before args0 about1) = true := by decide +kernel
set_option maxRecDepth 65536 in
theorem w_t2 : ((words1.drop 24).take 24).all (fun c => isCode c || c.before args0 about1) = true := by decide +kernel
set_option maxRecDepth 65536 in
theorem w_t3 : (((words1.drop 24).drop 24).take 24).all (fun c => isCode c || c.before args0 about1) = true := by decide +kernel
set_option maxRecDepth 65536 in
theorem w_t4 : (((words1.drop 24).drop 24).drop 24).all (fun c => isCode c || c.before args0 about1) = true := by decide +kernel
theorem w_tables : (allAtoms (Jvm.Cond.code x code maxLocals ret :: tables_1)).before args0 about1 = true := by
  rw [allAtoms_all]
  show words1.all (fun c => c.before args0 about1) = true
  refine all_split ?_ w_codes
  rw [← List.take_append_drop 24 words1, List.all_append, w_t1, ← List.take_append_drop 24 (words1.drop 24), List.all_append, w_t2, ← List.take_append_drop 24 ((words1.drop 24).drop 24), List.all_append, w_t3, w_t4]
  rfl
set_option maxRecDepth 65536 in
theorem w_rest : rest_1_c.before args0 about1 = true := by decide +kernel
set_option maxRecDepth 65536 in
theorem w_case : (Jvm.Cond.and given_1 narrow_1).before args0 about1 = true := by decide +kernel
set_option maxRecDepth 65536 in
theorem w_consts : constsHeld consts_1 about1 := Jvm.Lit.constsHeldB_iff.mp (by decide +kernel)
theorem w_applies : (headSpec (Jvm.Cond.code x code maxLocals ret :: tables_1) room_1).applies x e0.platform about1 = true :=
  (Spec.applies_iff w_frames).mpr ⟨w_running, w_runnable, w_alone, w_named, w_hears, w_ripe, w_room, w_tables⟩
theorem atStart : AtStart classFile x code maxLocals ret World_1 tables_1 room_1 Calls_1 rest_1 Pre_1 launch0 p0 e0 about1 theMethod args0 below0 :=
  ⟨lists_1, trivial, launch0.admits_env _ _ _, launch0.least_env, fairChoices_fair.cas, fairChoices_fair.clock, w_frames, w_args, w_heap, w_applies, ⟨w_consts, trivial⟩, w_rest, w_case⟩
end start1
theorem witness_1 : WitnessClaimed_1 := ⟨start1.p0, start1.e0, start1.about1, start1.theMethod, start1.args0, start1.below0, start1.atStart⟩
end Jvm.Pilot.@@N@@
