import JvmDerived
import JvmDerived.Pilot.@@N@@Statement
import JvmDerived.Pilot.@@N@@Code
set_option linter.unusedVariables false
set_option linter.unusedSimpArgs false
namespace Jvm.RoadKit
open Sem ClassFile Op Lib Jvm.Stand Jvm.Free Jvm.LawKit
section New
variable {p : Program} {l : Launch} {e : Env} {R : Room} {s : State} {m : MethodId} {args : Array Value} {below : List Frame} {meth : Method} {c : Code} {T : State} {locs : List Loc} {cells slots : Nat}
theorem retI (X : Stand p l e R s m args below meth c T locs cells slots) (hx : p.tables.exec = Jvm.exec) {pc : Nat} {Ls : Array Slot} {z : Int32} {rest : List Value} (hret : meth.sig.returnType = some .int) (hd : decode c.code pc = .ok (.ireturn, 1)) {fs : List Frame}
    (hl : ∀ (f : JFrame) (acts : List Action), f.method = m → f.locked = none → f.entered = [] → (doReturn e (T.setTop f) acts (some (.int z))).1 = T.setFrames fs) : Steps p.tables e below (T.setTop (mkF m pc Ls (.int z :: rest))) (T.setFrames fs) := by
  have hm' : T.vm.method? m = some meth := X.method'
  have hn : narrow .int (.int z) = .int z := rfl
  show Steps p.tables e below (T.setTop { method := m, pc := pc, locals := Ls, stack := _ :: rest, locked := none }) _
  jvm_step X.here [X.here.top, hx, hd, hm', hret, hn]
  first | (intro acts; rw [hl _ acts rfl rfl rfl]) | rw [hl _ _ rfl rfl rfl]
  exact Steps.refl _
theorem retR (X : Stand p l e R s m args below meth c T locs cells slots) (hx : p.tables.exec = Jvm.exec) {pc : Nat} {Ls : Array Slot} {w : Value} {t : FieldType} {rest : List Value} (hret : meth.sig.returnType = some t) (hn : narrow t w = w) (ht : t.isReference = true) (hw : w.isRef = true) (hd : decode c.code pc = .ok (.areturn, 1)) {fs : List Frame}
    (hl : ∀ (f : JFrame) (acts : List Action), f.method = m → f.locked = none → f.entered = [] → (doReturn e (T.setTop f) acts (some w)).1 = T.setFrames fs) : Steps p.tables e below (T.setTop (mkF m pc Ls (w :: rest))) (T.setFrames fs) := by
  have hm' : T.vm.method? m = some meth := X.method'
  show Steps p.tables e below (T.setTop { method := m, pc := pc, locals := Ls, stack := _ :: rest, locked := none }) _
  jvm_step X.here [X.here.top, hx, hd, hm', hret, hn, hw]
  try (refine ⟨ht, ?_⟩)
  first | (intro acts; rw [hl _ acts rfl rfl rfl]) | rw [hl _ _ rfl rfl rfl]
  exact Steps.refl _
end New
end Jvm.RoadKit
namespace Jvm.Wk
open Jvm Jvm.ClassFile Sem Op Lib Jvm.Free Jvm.Stand Jvm.LawKit Jvm.RoadKit
/-! A backward calculus of walks ('Walk'), over the library's Stand laws. -/
abbrev LiT : Type := List (String × Nat × Addr)
/-- String constants since the law's start: texts interned (among Ts); entries known to be resolved -/
abbrev TsT : Type := Option (List String)
def LS (Z : State) (vm : Vm) (Ts : TsT) (Li : LiT) : Prop := (∀ T, Ts = some T → IB Z vm T) ∧ (Ts = some [] → Z.WarmedH vm) ∧ ∀ q ∈ Li, (Z.setVm vm).resolvedAt? q.1 q.2.1 = some (.string q.2.2)
theorem LS.warm {Z s : State} {vm vm' : Vm} {Ts : TsT} {Li : LiT} (h : LS Z vm Ts Li) (hw : (s.setVm vm).WarmedH vm') : LS Z vm' Ts Li := by
  refine ⟨?_, fun hT => State.WarmedH.trans (t := s.setVm vm) (h.2.1 hT) hw, fun q hq => ?_⟩
  · intro T hT
    obtain ⟨more, e, hm⟩ := h.1 T hT
    exact ⟨more, (hw.interned_eq).trans e, hm⟩
  · exact State.resolvedAt?_warmed39 (s := s.setVm vm) hw.wide (h.2.2 q hq)
theorem LS.start {Z : State} : LS Z Z.vm (some []) [] := ⟨fun T hT => by cases hT; exact IB.start, fun _ => State.WarmedH.refl Z, fun _ q => nomatch q⟩
theorem LS.nil {Z : State} {vm : Vm} {Ts : TsT} {Li : LiT} (h : LS Z vm Ts Li) : LS Z vm Ts [] := ⟨h.1, h.2.1, fun _ q => nomatch q⟩
/-- old cells keep their kind, and their slots but for those in W -/
def Kq (h h' : Heap) (W : Loc → Prop) : Prop := h.size ≤ h'.size ∧ ∀ (a : Addr) (c : Cell), h[a]? = some c → ∃ c' : Cell, h'[a]? = some c' ∧ c'.cls = c.cls ∧ c'.vm = c.vm ∧ c'.slots.size = c.slots.size ∧ ∀ i, ¬ W ⟨a, i⟩ → c'.slots[i]? = c.slots[i]?
abbrev noW : Loc → Prop := fun _ => False
theorem Kq.refl (h : Heap) (W : Loc → Prop) : Kq h h W := ⟨Nat.le_refl _, fun _ c q => ⟨c, q, rfl, rfl, rfl, fun _ _ => rfl⟩⟩
theorem Kq.of_ext {h h' : Heap} (E : Ext h h') : Kq h h' noW := ⟨E.1, fun a c q => ⟨c, E.2 a c q, rfl, rfl, rfl, fun _ _ => rfl⟩⟩
theorem Kq.of_wr {h h' : Heap} {a : Addr} {sl : Nat} {v : Value} (W : Wr h h' a sl v) : Kq h h' (fun y => y = ⟨a, sl⟩) := by
  refine ⟨Nat.le_of_eq W.size.symm, fun b c q => ?_⟩
  obtain ⟨c', e1, e2, e3, e4, e5, e6, -⟩ := wr_at W q
  refine ⟨c', e1, e2, e3, e4, fun i hi => ?_⟩
  by_cases e : b = a
  · refine e6 i fun hj => hi ?_
    rw [e, hj]
  · rw [e5 e]
theorem Kq.trans {h h1 h2 : Heap} {W W1 W2 : Loc → Prop} (K : Kq h h1 W1) (K' : Kq h1 h2 W2) (q1 : ∀ y, W1 y → W y) (q2 : ∀ y : Loc, y.base < h.size → W2 y → W y) : Kq h h2 W := by
  refine ⟨Nat.le_trans K.1 K'.1, fun a c q => ?_⟩
  obtain ⟨c1, a1, a2, a3, a4, a5⟩ := K.2 a c q
  obtain ⟨c2, b1, b2, b3, b4, b5⟩ := K'.2 a c1 a1
  exact ⟨c2, b1, b2.trans a2, b3.trans a3, b4.trans a4, fun i hi => (b5 i fun hw => hi (q2 _ (Array.getElem?_eq_some_iff.mp q).1 hw)).trans (a5 i fun hw => hi (q1 _ hw))⟩
theorem Kq.mono {h h1 : Heap} {W W1 : Loc → Prop} (K : Kq h h1 W1) (q : ∀ y, W1 y → W y) : Kq h h1 W := ⟨K.1, fun a c e => by
  obtain ⟨c1, a1, a2, a3, a4, a5⟩ := K.2 a c e
  exact ⟨c1, a1, a2, a3, a4, fun i hi => a5 i fun hw => hi (q _ hw)⟩⟩
/-- an array: its kind, its length, what stands in it -/
def Av (Z : State) (h : Heap) (a : Addr) (ty : FieldType) (n : Nat) (f : Nat → Value) : Prop := ∃ c : Cell, Arr Z h a c ty ∧ c.slots.size = n ∧ n < 2147483648 ∧ ∀ i, i < n → c.slots[i]? = some (f i)
theorem nw {a b : Addr} {i j : Nat} (q : a ≠ b) : ¬ ((⟨a, i⟩ : Loc) = ⟨b, j⟩) := fun e => q (congrArg Loc.base e)
theorem nws {a b : Addr} {i j : Nat} (q : i ≠ j) : ¬ ((⟨a, i⟩ : Loc) = ⟨b, j⟩) := fun e => q (by cases e; rfl)
theorem nwb {a b : Addr} {i : Nat} (q : a ≠ b) : ¬ ((⟨a, i⟩ : Loc).base = b) := q
theorem ltne {a b : Addr} {n : Nat} (h : a < n) (g : n ≤ b) : a ≠ b := Nat.ne_of_lt (Nat.lt_of_lt_of_le h g)
theorem gtne {a b : Addr} {n : Nat} (h : a < n) (g : n ≤ b) : b ≠ a := Nat.ne_of_gt (Nat.lt_of_lt_of_le h g)
end Jvm.Wk
namespace Jvm.RoadKit
open Jvm Jvm.ClassFile Sem Op Lib Jvm.Free Jvm.Stand Jvm.LawKit Jvm.Wk
section Facts
variable {Z : State} {h h' : Heap} {W : Loc → Prop} {a b : Addr} {C n d : String} {v w : Value} {ty : FieldType}
theorem Fld.kq (F : Fld Z h a C n d v) (K : Kq h h' W) (q : ¬ W ⟨a, Jvm.RoadKit.slotOf Z C n d⟩) : Fld Z h' a C n d v := by
  obtain ⟨cell, cf, k, i, f, h1, h2, h3, h4, h5, h6, h7⟩ := F
  obtain ⟨c', e1, e2, e3, -, e5⟩ := K.2 _ _ h1
  refine ⟨c', cf, k, i, f, e1, h2, h3, by rw [e3]; exact h4, by rw [e3]; exact h5, by rw [e2]; exact h6, ?_⟩
  rw [e5 f.slot (by simpa [slotOf, h2] using q)]; exact h7
theorem Exa.kq (F : Exa Z h a C) (K : Kq h h' W) : Exa Z h' a C := by
  obtain ⟨cell, k, h1, h2, h3, h4, h5⟩ := F
  obtain ⟨c', e1, e2, e3, e4, -⟩ := K.2 _ _ h1
  exact ⟨c', k, e1, by rw [e2]; exact h2, by rw [e2]; exact h3, by rw [e3]; exact h4, by rw [e4]; exact h5⟩
theorem kqCell (K : Kq h h' W) {c : Cell} (e : h[a]? = some c) (q : ∀ i, ¬ W ⟨a, i⟩) : ∃ c' : Cell, h'[a]? = some c' ∧ c'.cls = c.cls ∧ c'.vm = c.vm ∧ c'.slots = c.slots := by
  obtain ⟨c', e1, e2, e3, -, e5⟩ := K.2 _ _ e
  exact ⟨c', e1, e2, e3, Array.ext_getElem? fun i => e5 i (q i)⟩
theorem Arr.kq {c : Cell} (F : Arr Z h a c ty) (K : Kq h h' W) (q : ∀ i, ¬ W ⟨a, i⟩) : ∃ c', Arr Z h' a c' ty ∧ c'.cls = c.cls ∧ c'.slots = c.slots := by
  obtain ⟨c', e1, e2, e3, -, e5⟩ := K.2 _ _ F.1
  obtain ⟨g1, k, g2, g3⟩ := F.2.1
  exact ⟨c', ⟨e1, ⟨by rw [e3]; exact g1, k, by rw [e2]; exact g2, g3⟩, by rw [e3]; exact F.2.2⟩, e2, Array.ext_getElem? fun i => e5 i (q i)⟩
theorem Arv.kq {k : ClassId} {z : Int32} {vs : List Value} {dv : Value} (F : Arv Z h a k ty z vs dv) (K : Kq h h' W) (q : ∀ i, ¬ W ⟨a, i⟩) : Arv Z h' a k ty z vs dv := by
  obtain ⟨c, A, r1, r2, r3, r4, r5⟩ := F
  obtain ⟨c', A', e1, e2⟩ := A.kq K q
  exact ⟨c', A', e1.trans r1, by rw [e2]; exact r2, r3, fun i hi => by rw [e2] at hi ⊢; exact r4 i hi, fun i hi => by rw [e2] at hi; exact r5 i hi⟩
theorem Ins.kq {K : String} {bo : Bool} (F : Ins Z h a K bo) (KK : Kq h h' W) : Ins Z h' a K bo := by
  obtain ⟨cell, cT, h1, h2, h3⟩ := F
  obtain ⟨c', e1, e2, e3, -⟩ := KK.2 _ _ h1
  exact ⟨c', cT, e1, h2, by rw [e2, e3]; exact h3⟩
end Facts
end Jvm.RoadKit
namespace Jvm.Wk
open Jvm Jvm.ClassFile Sem Op Lib Jvm.Free Jvm.Stand Jvm.LawKit Jvm.RoadKit
theorem Av.kq {Z : State} {h h' : Heap} {W : Loc → Prop} {a : Addr} {ty : FieldType} {z : Nat} {f : Nat → Value} (F : Av Z h a ty z f) (K : Kq h h' W) (q : ∀ i, ¬ W ⟨a, i⟩) : Av Z h' a ty z f := by
  obtain ⟨c, A, r1, r2, r3⟩ := F
  obtain ⟨c', A', e1, e2⟩ := A.kq K q
  exact ⟨c', A', by rw [e2]; exact r1, r2, fun i hi => by rw [e2]; exact r3 i hi⟩
theorem exa_av {Z : State} {h : Heap} {a b : Addr} {C : String} {k : Nat} {a0 : Array Value} {ty : FieldType} {z : Nat} {f : Nat → Value} (E : Exa Z h a C) (w : (Cond.instantiable C k).before a0 Z = true) (F : Av Z h b ty z f) : a ≠ b := by obtain ⟨c, A, -⟩ := F; exact ne_arr E w A
theorem Av.congr {Z : State} {h : Heap} {a : Addr} {ty : FieldType} {n : Nat} {f g : Nat → Value} (F : Av Z h a ty n f) (e : ∀ i, i < n → f i = g i) : Av Z h a ty n g := by
  obtain ⟨c, A, r1, r2, r3⟩ := F
  exact ⟨c, A, r1, r2, fun i hi => (e i hi) ▸ r3 i hi⟩
theorem Av.kq0 {Z : State} {h : Heap} {a : Addr} {ty : FieldType} {f g : Nat → Value} (F : Av Z h a ty 0 f) : Av Z h a ty 0 g := F.congr fun i hi => absurd hi (Nat.not_lt_zero _)
theorem Av.lt {Z : State} {h : Heap} {a : Addr} {ty : FieldType} {z : Nat} {f : Nat → Value} (F : Av Z h a ty z f) : a < h.size := by obtain ⟨c, A, -⟩ := F; exact A.lt
theorem Av.of_arv {Z : State} {h : Heap} {a : Addr} {k : ClassId} {ty : FieldType} {z : Int32} {vs : List Value} {d : Value} (F : Arv Z h a k ty z vs d) {n : Nat} (hn : z.toNatClampNeg = n) : Av Z h a ty n (fun i => vs.getD i d) := by
  obtain ⟨c, A, r1, r2, r3, r4, r5⟩ := F
  exact ⟨c, A, r2.trans hn, hn ▸ (back32 r3).2, fun i hi => r4 i (by rw [r2, hn]; exact hi)⟩
end Jvm.Wk
namespace Jvm.Wk
open Jvm Jvm.ClassFile Sem Op Lib Jvm.Free Jvm.Stand Jvm.LawKit Jvm.RoadKit
/-- places made since h, or in W -/
def Fw (h : Heap) (W : Loc → Prop) : Loc → Prop := fun y => h.size ≤ y.base ∨ W y
theorem Fw.fresh {h : Heap} {W : Loc → Prop} {a : Addr} {i : Nat} (q : h.size ≤ a) : Fw h W ⟨a, i⟩ := Or.inl q
theorem Fw.up {h0 h : Heap} {W V : Loc → Prop} (q : ∀ y, V y → Fw h0 W y) (g : h0.size ≤ h.size) : ∀ y, Fw h V y → Fw h0 W y := fun y r => r.elim (fun r => Or.inl (Nat.le_trans g r)) (q y)
theorem Fw.upN {h0 h : Heap} {W : Loc → Prop} (g : h0.size ≤ h.size) : ∀ y, Fw h noW y → Fw h0 W y := fun y r => r.elim (fun r => Or.inl (Nat.le_trans g r)) (fun r => r.elim)
theorem Fw.old {h : Heap} {W : Loc → Prop} {y : Loc} (q : W y) : Fw h W y := Or.inr q
/-- where a walk stands -/
def On (Z : State) (own nm : String) (rt : Option FieldType) (B : ByteArray) (ml : Nat) (R : Room) (h0 : Heap) (ws : Loc → Prop) (p : Program) (l : Launch) (e : Env) (s : State) (m : MethodId) (args : Array Value) (below : List Frame) (meth : Method) (c : Code) (Ts : TsT) (Li : LiT) (T : State) (h : Heap) (locs : List Loc) (cells slots : Nat) : Prop :=
  ∃ (vm0 : Vm) (k0 : Nat), Stand p l e R (s.setVm vm0) m args below meth c T locs cells slots ∧ p.tables.exec = Jvm.exec ∧ T.heap = h ∧ s.Since vm0 k0 ∧ k0 ≤ h.size ∧ Z.Warmed39 vm0 ∧ vm0.findClass own = some m.cls ∧ LS Z vm0 Ts Li ∧
    Fr Z.heap.size locs ∧ (∀ y ∈ locs, ws y) ∧ s.heap = h0 ∧ Ext Z.heap s.heap ∧ c.code = B ∧ c.maxLocals = ml ∧ meth.name = nm ∧ meth.sig.returnType = rt ∧ meth.locks = false
def Go (tb : Tables) (e : Env) (below : List Frame) (F : Outcome → State → Prop) (a : State) : Prop := ∃ s₂ o, Steps tb e below a s₂ ∧ s₂.status = .running ∧ Ended s₂ below o ∧ F o s₂
/-- how a frame ends -/
abbrev QT : Type := Option Value → Heap → TsT → LiT → Prop
def Fnl (Z : State) (R : Room) (h0 : Heap) (W : Loc → Prop) (Q : QT) (s : State) (o : Outcome) (s₂ : State) : Prop :=
  ∃ v L Ts' Li', o = .returned v ∧ Q v s₂.heap Ts' Li' ∧ LS Z s₂.vm Ts' Li' ∧ Fr Z.heap.size L ∧ (∀ y ∈ L, Fw h0 W y) ∧ ReturnedEndW s o s₂ L R.cells R.slots
/-- from wherever a walk stands so, the frame's end is reached -/
def Walk (Z : State) (own nm : String) (rt : Option FieldType) (B : ByteArray) (ml : Nat) (R : Room) (h0 : Heap) (W : Loc → Prop) (Q : QT) (ws : Loc → Prop) (Ts : TsT) (Li : LiT) (h : Heap) (cells slots pc : Nat) (Ls : Array Slot) (st : List Value) : Prop :=
  ∀ p l e s m args below meth c T locs, On Z own nm rt B ml R h0 ws p l e s m args below meth c Ts Li T h locs cells slots → Go p.tables e below (Fnl Z R h0 W Q s) (T.setTop (mkF m pc Ls st))
/-- it answers v0 and leaves all as it was -/
abbrev Pu (v0 : Option Value) (h : Heap) (Ts : TsT) (Li : LiT) : QT := fun v h' T L => v = v0 ∧ h' = h ∧ T = Ts ∧ L = Li
/-- a method's contract -/
def Con (Z : State) (y : MethodName) (B : ByteArray) (ml : Nat) (rt : Option FieldType) (R : Room) (as : List Value) (h0 : Heap) (Ts : TsT) (Li : LiT) (W : Loc → Prop) (Q : QT) : Prop :=
  ∀ l tb, MetFree l y (head1 (Cond.code y B ml rt :: tb) R) (fun a U => a = as.toArray ∧ Z.Warmed39 U.vm ∧ U.heap = h0 ∧ Ext Z.heap U.heap ∧ LS Z U.vm Ts Li) (fun _ _ _ _ _ => True) (fun _ U o U' => Fnl Z R h0 W Q U o U')
theorem Con.of {Z : State} {y : MethodName} {B : ByteArray} {ml : Nat} {rt : Option FieldType} {R : Room} {as : List Value} {h0 : Heap} {Ts : TsT} {Li : LiT} {W : Loc → Prop} {Q : QT} {ws : Loc → Prop} {Ls : Array Slot}
    (hp : plainFor y = true) (he : ∀ m, entryFrame m as.toArray ml = mkF m 0 Ls []) (k : Ext Z.heap h0 → Walk Z y.cls y.name rt B ml R h0 W Q ws Ts Li h0 0 0 0 Ls []) : Con Z y B ml rt R as h0 Ts Li W Q := by
  intro l tb
  refine MetFree.of_bodySF hp hisR ?_
  intro p e s m args below meth c s₁ Bd hml0 hP hK
  obtain ⟨rfl, hZ, hh, hE, hL⟩ := hP
  have X0 : Stand p l e R (s.setVm s.vm) m as.toArray below meth c s₁ [] 0 0 := Stand.of_body Bd
  have e0 : s₁.heap = h0 := by rw [← hh, Bd.state]; rfl
  obtain ⟨s₂, o, h1, h2, h3, h4⟩ := k (hh ▸ hE) p l e s m as.toArray below meth c s₁ [] ⟨s.vm, h0.size, X0, Bd.exec, e0, (State.WarmedH.refl s).since _, Nat.le_refl _, hZ, findClass_of_methodNamed Bd.named, hL, Fr.nil _, (fun _ q => nomatch q), hh, hE, Bd.bytes, hml0, (name_of_methodNamed Bd.named Bd.method).1, Bd.returns, Bd.notSynchronized⟩
  exact ⟨s₂, o, castTop (he m) h1, h2, h3, h4⟩
section W
variable {Z : State} {own nm : String} {rt : Option FieldType} {B : ByteArray} {ml : Nat} {R : Room} {h0 : Heap} {W : Loc → Prop} {Q : QT} {ws : Loc → Prop} {Ts : TsT} {Li : LiT} {h : Heap} {cells slots pc pc' : Nat} {Ls Ls' : Array Slot} {st st' : List Value} {a0 : Array Value}
theorem Walk.lift (f : ∀ (p : Program) (e : Env) (below : List Frame) (T : State) (m : MethodId) (c : Code) (target : State), At T m c below → p.tables.exec = Jvm.exec → c.code = B → Steps p.tables e below (T.setTop (mkF m pc' Ls' st')) target → Steps p.tables e below (T.setTop (mkF m pc Ls st)) target)
    (k : Walk Z own nm rt B ml R h0 W Q ws Ts Li h cells slots pc' Ls' st') : Walk Z own nm rt B ml R h0 W Q ws Ts Li h cells slots pc Ls st := by
  intro p l e s m args below meth c T locs ho
  obtain ⟨s₂, o, h1, r⟩ := k p l e s m args below meth c T locs ho
  obtain ⟨vm0, k0, X, hx, -, -, -, -, -, -, -, -, -, -, hc, -⟩ := ho
  exact ⟨s₂, o, f p e below T m c s₂ X.here hx hc h1, r⟩
theorem Walk.ws_mono {ws' : Loc → Prop} (q : ∀ y, ws y → ws' y) (k : Walk Z own nm rt B ml R h0 W Q ws' Ts Li h cells slots pc Ls st) : Walk Z own nm rt B ml R h0 W Q ws Ts Li h cells slots pc Ls st := by
  intro p l e s m args below meth c T locs ho
  obtain ⟨vm0, k0, X, hx, a1, a2, a3, a4, a5, a6, a7, a8, a9⟩ := ho
  exact k p l e s m args below meth c T locs ⟨vm0, k0, X, hx, a1, a2, a3, a4, a5, a6, a7, fun y hy => q y (a8 y hy), a9⟩
/-- more may have been made -/
theorem Walk.more {cells' slots' : Nat} (hc : cells ≤ cells') (hs : slots ≤ slots') (k : Walk Z own nm rt B ml R h0 W Q ws Ts Li h cells' slots' pc Ls st) : Walk Z own nm rt B ml R h0 W Q ws Ts Li h cells slots pc Ls st := by
  intro p l e s m args below meth c T locs ho
  obtain ⟨vm0, k0, X, r⟩ := ho
  exact k p l e s m args below meth c T locs ⟨vm0, k0, X.more hc hs, r⟩
/-- the law's start stands yet -/
theorem Walk.old (k : Ext Z.heap h → Walk Z own nm rt B ml R h0 W Q ws Ts Li h cells slots pc Ls st) : Walk Z own nm rt B ml R h0 W Q ws Ts Li h cells slots pc Ls st := by
  intro p l e s m args below meth c T locs ho
  obtain ⟨vm0, k0, X, hx, eT, a2, a3, a4, a5, a6, N, a8, a9, E, r⟩ := id ho
  refine k ⟨?_, fun b cl hcl => ?_⟩ p l e s m args below meth c T locs ho
  · have q : s.heap.size ≤ T.heap.size := X.same.2.1
    rw [← eT]; exact Nat.le_trans E.1 q
  · obtain ⟨c', h1, h2, -, h4⟩ := X.same.2.2.2.2.2 b cl (E.2 b cl hcl)
    have hb := (Array.getElem?_eq_some_iff.mp hcl).1
    have hsl : c'.slots = cl.slots := Array.ext_getElem? fun i => h4 i fun hm => absurd (N _ hm) (Nat.not_le.mpr hb)
    have hcc : c' = cl := by rw [h2, hsl]
    rw [← eT, ← hcc]; exact h1
theorem Walk.aloadN {k : Fin 4} {v : Value} (hd : decode B pc = .ok (.aload_n k, 1)) (hl : Ls[k.val]? = some (.val v)) (hv : v.isRef = true) (k' : Walk Z own nm rt B ml R h0 W Q ws Ts Li h cells slots pc' Ls (v :: st)) (hp : pc + 1 = pc' := by rfl) : Walk Z own nm rt B ml R h0 W Q ws Ts Li h cells slots pc Ls (st) :=
  Walk.lift (fun _ _ _ _ _ _ _ h hx hc r => XS.aloadN h hx rfl (hb hc hd) hl hv (by subst hp; exact r)) k'
theorem Walk.aload {k : Nat} {v : Value} (hd : decode B pc = .ok (.aload k, 2)) (hl : Ls[k]? = some (.val v)) (hv : v.isRef = true) (k' : Walk Z own nm rt B ml R h0 W Q ws Ts Li h cells slots pc' Ls (v :: st)) (hp : pc + 2 = pc' := by rfl) : Walk Z own nm rt B ml R h0 W Q ws Ts Li h cells slots pc Ls (st) :=
  Walk.lift (fun _ _ _ _ _ _ _ h hx hc r => XS.aload h hx rfl (hb hc hd) hl hv (by subst hp; exact r)) k'
theorem Walk.iloadN {k : Fin 4} {v : Int32} (hd : decode B pc = .ok (.iload_n k, 1)) (hl : Ls[k.val]? = some (.val (.int v))) (k' : Walk Z own nm rt B ml R h0 W Q ws Ts Li h cells slots pc' Ls (.int v :: st)) (hp : pc + 1 = pc' := by rfl) : Walk Z own nm rt B ml R h0 W Q ws Ts Li h cells slots pc Ls (st) :=
  Walk.lift (fun _ _ _ _ _ _ _ h hx hc r => XS.iloadN h hx rfl (hb hc hd) hl (by subst hp; exact r)) k'
theorem Walk.iload {k : Nat} {v : Int32} (hd : decode B pc = .ok (.iload k, 2)) (hl : Ls[k]? = some (.val (.int v))) (k' : Walk Z own nm rt B ml R h0 W Q ws Ts Li h cells slots pc' Ls (.int v :: st)) (hp : pc + 2 = pc' := by rfl) : Walk Z own nm rt B ml R h0 W Q ws Ts Li h cells slots pc Ls (st) :=
  Walk.lift (fun _ _ _ _ _ _ _ h hx hc r => XS.iload h hx rfl (hb hc hd) hl (by subst hp; exact r)) k'
theorem Walk.lloadN {k : Fin 4} {v : Int64} (hd : decode B pc = .ok (.lload_n k, 1)) (hl : Ls[k.val]? = some (.val (.long v))) (k' : Walk Z own nm rt B ml R h0 W Q ws Ts Li h cells slots pc' Ls (.long v :: st)) (hp : pc + 1 = pc' := by rfl) : Walk Z own nm rt B ml R h0 W Q ws Ts Li h cells slots pc Ls (st) :=
  Walk.lift (fun _ _ _ _ _ _ _ h hx hc r => XT.lloadN h hx rfl (hb hc hd) hl (by subst hp; exact r)) k'
theorem Walk.lload {k : Nat} {v : Int64} (hd : decode B pc = .ok (.lload k, 2)) (hl : Ls[k]? = some (.val (.long v))) (k' : Walk Z own nm rt B ml R h0 W Q ws Ts Li h cells slots pc' Ls (.long v :: st)) (hp : pc + 2 = pc' := by rfl) : Walk Z own nm rt B ml R h0 W Q ws Ts Li h cells slots pc Ls (st) :=
  Walk.lift (fun _ _ _ _ _ _ _ h hx hc r => XT.lload h hx rfl (hb hc hd) hl (by subst hp; exact r)) k'
theorem Walk.iconst {i : Int} (v : Int32) (hd : decode B pc = .ok (.iconst i, 1)) (hv : Int32.ofInt i = v) (k' : Walk Z own nm rt B ml R h0 W Q ws Ts Li h cells slots pc' Ls (.int v :: st)) (hp : pc + 1 = pc' := by rfl) : Walk Z own nm rt B ml R h0 W Q ws Ts Li h cells slots pc Ls (st) :=
  Walk.lift (fun _ _ _ _ _ _ _ h hx hc r => XT.iconstV h hx rfl v (hb hc hd) hv (by subst hp; exact r)) k'
theorem Walk.bipush {i : Int} (v : Int32) (hd : decode B pc = .ok (.bipush i, 2)) (hv : (Int8.ofInt i).toInt32 = v) (k' : Walk Z own nm rt B ml R h0 W Q ws Ts Li h cells slots pc' Ls (.int v :: st)) (hp : pc + 2 = pc' := by rfl) : Walk Z own nm rt B ml R h0 W Q ws Ts Li h cells slots pc Ls (st) :=
  Walk.lift (fun _ _ _ _ _ _ _ h hx hc r => XT.bipushV h hx rfl v (hb hc hd) hv (by subst hp; exact r)) k'
theorem Walk.sipush {i : Int} (v : Int32) (hd : decode B pc = .ok (.sipush i, 3)) (hv : (Int16.ofInt i).toInt32 = v) (k' : Walk Z own nm rt B ml R h0 W Q ws Ts Li h cells slots pc' Ls (.int v :: st)) (hp : pc + 3 = pc' := by rfl) : Walk Z own nm rt B ml R h0 W Q ws Ts Li h cells slots pc Ls (st) :=
  Walk.lift (fun _ _ _ _ _ _ _ h hx hc r => XT.sipushV h hx rfl v (hb hc hd) hv (by subst hp; exact r)) k'
theorem Walk.lconst {k : Fin 2} (v : Int64) (hd : decode B pc = .ok (.lconst k, 1)) (hv : Int64.ofNat k = v) (k' : Walk Z own nm rt B ml R h0 W Q ws Ts Li h cells slots pc' Ls (.long v :: st)) (hp : pc + 1 = pc' := by rfl) : Walk Z own nm rt B ml R h0 W Q ws Ts Li h cells slots pc Ls (st) :=
  Walk.lift (fun _ _ _ _ _ _ _ h hx hc r => XT.lconstV h hx rfl v (hb hc hd) hv (by subst hp; exact r)) k'
theorem Walk.aconstNull (hd : decode B pc = .ok (.aconst_null, 1)) (k' : Walk Z own nm rt B ml R h0 W Q ws Ts Li h cells slots pc' Ls (.null :: st)) (hp : pc + 1 = pc' := by rfl) : Walk Z own nm rt B ml R h0 W Q ws Ts Li h cells slots pc Ls (st) :=
  Walk.lift (fun _ _ _ _ _ _ _ h hx hc r => XS.aconstNull h hx rfl (hb hc hd) (by subst hp; exact r)) k'
theorem Walk.iadd {x y : Int32} (hd : decode B pc = .ok (.iadd, 1)) (k' : Walk Z own nm rt B ml R h0 W Q ws Ts Li h cells slots pc' Ls (.int (x + y) :: st)) (hp : pc + 1 = pc' := by rfl) : Walk Z own nm rt B ml R h0 W Q ws Ts Li h cells slots pc Ls (.int y :: .int x :: st) :=
  Walk.lift (fun _ _ _ _ _ _ _ h hx hc r => XS.iadd h hx rfl (hb hc hd) rfl (by subst hp; exact r)) k'
theorem Walk.isub {x y : Int32} (hd : decode B pc = .ok (.isub, 1)) (k' : Walk Z own nm rt B ml R h0 W Q ws Ts Li h cells slots pc' Ls (.int (x - y) :: st)) (hp : pc + 1 = pc' := by rfl) : Walk Z own nm rt B ml R h0 W Q ws Ts Li h cells slots pc Ls (.int y :: .int x :: st) :=
  Walk.lift (fun _ _ _ _ _ _ _ h hx hc r => XS.isub h hx rfl (hb hc hd) rfl (by subst hp; exact r)) k'
theorem Walk.iand {x y : Int32} (hd : decode B pc = .ok (.iand, 1)) (k' : Walk Z own nm rt B ml R h0 W Q ws Ts Li h cells slots pc' Ls (.int (x &&& y) :: st)) (hp : pc + 1 = pc' := by rfl) : Walk Z own nm rt B ml R h0 W Q ws Ts Li h cells slots pc Ls (.int y :: .int x :: st) :=
  Walk.lift (fun _ _ _ _ _ _ _ h hx hc r => XS.iand h hx rfl (hb hc hd) rfl (by subst hp; exact r)) k'
theorem Walk.imul {x y : Int32} (hd : decode B pc = .ok (.imul, 1)) (k' : Walk Z own nm rt B ml R h0 W Q ws Ts Li h cells slots pc' Ls (.int (x * y) :: st)) (hp : pc + 1 = pc' := by rfl) : Walk Z own nm rt B ml R h0 W Q ws Ts Li h cells slots pc Ls (.int y :: .int x :: st) :=
  Walk.lift (fun _ _ _ _ _ _ _ h hx hc r => XS.imul h hx rfl (hb hc hd) rfl (by subst hp; exact r)) k'
theorem Walk.ixor {x y : Int32} (hd : decode B pc = .ok (.ixor, 1)) (k' : Walk Z own nm rt B ml R h0 W Q ws Ts Li h cells slots pc' Ls (.int (x ^^^ y) :: st)) (hp : pc + 1 = pc' := by rfl) : Walk Z own nm rt B ml R h0 W Q ws Ts Li h cells slots pc Ls (.int y :: .int x :: st) :=
  Walk.lift (fun _ _ _ _ _ _ _ h hx hc r => XT.ixor h hx rfl (hb hc hd) rfl (by subst hp; exact r)) k'
theorem Walk.ior {x y : Int32} (hd : decode B pc = .ok (.ior, 1)) (k' : Walk Z own nm rt B ml R h0 W Q ws Ts Li h cells slots pc' Ls (.int (x ||| y) :: st)) (hp : pc + 1 = pc' := by rfl) : Walk Z own nm rt B ml R h0 W Q ws Ts Li h cells slots pc Ls (.int y :: .int x :: st) :=
  Walk.lift (fun _ _ _ _ _ _ _ h hx hc r => XT.ior h hx rfl (hb hc hd) rfl (by subst hp; exact r)) k'
theorem Walk.ishl {x y : Int32} (hd : decode B pc = .ok (.ishl, 1)) (k' : Walk Z own nm rt B ml R h0 W Q ws Ts Li h cells slots pc' Ls (.int (x <<< (y &&& 31)) :: st)) (hp : pc + 1 = pc' := by rfl) : Walk Z own nm rt B ml R h0 W Q ws Ts Li h cells slots pc Ls (.int y :: .int x :: st) :=
  Walk.lift (fun _ _ _ _ _ _ _ h hx hc r => XT.ishl h hx rfl (hb hc hd) rfl (by subst hp; exact r)) k'
theorem Walk.ishr {x y : Int32} (hd : decode B pc = .ok (.ishr, 1)) (k' : Walk Z own nm rt B ml R h0 W Q ws Ts Li h cells slots pc' Ls (.int (x >>> (y &&& 31)) :: st)) (hp : pc + 1 = pc' := by rfl) : Walk Z own nm rt B ml R h0 W Q ws Ts Li h cells slots pc Ls (.int y :: .int x :: st) :=
  Walk.lift (fun _ _ _ _ _ _ _ h hx hc r => XT.ishr h hx rfl (hb hc hd) rfl (by subst hp; exact r)) k'
theorem Walk.iushr {x y : Int32} (hd : decode B pc = .ok (.iushr, 1)) (k' : Walk Z own nm rt B ml R h0 W Q ws Ts Li h cells slots pc' Ls (.int (XT.ushr x y) :: st)) (hp : pc + 1 = pc' := by rfl) : Walk Z own nm rt B ml R h0 W Q ws Ts Li h cells slots pc Ls (.int y :: .int x :: st) :=
  Walk.lift (fun _ _ _ _ _ _ _ h hx hc r => XT.iushr h hx rfl (hb hc hd) rfl (by subst hp; exact r)) k'
theorem Walk.idiv {x y : Int32} (hd : decode B pc = .ok (.idiv, 1)) (hy : y ≠ 0) (k' : Walk Z own nm rt B ml R h0 W Q ws Ts Li h cells slots pc' Ls (.int (x / y) :: st)) (hp : pc + 1 = pc' := by rfl) : Walk Z own nm rt B ml R h0 W Q ws Ts Li h cells slots pc Ls (.int y :: .int x :: st) :=
  Walk.lift (fun _ _ _ _ _ _ _ h hx hc r => XS.idiv h hx rfl (hb hc hd) rfl hy (by subst hp; exact r)) k'
theorem Walk.irem {x y : Int32} (hd : decode B pc = .ok (.irem, 1)) (hy : y ≠ 0) (k' : Walk Z own nm rt B ml R h0 W Q ws Ts Li h cells slots pc' Ls (.int (x - (x / y) * y) :: st)) (hp : pc + 1 = pc' := by rfl) : Walk Z own nm rt B ml R h0 W Q ws Ts Li h cells slots pc Ls (.int y :: .int x :: st) :=
  Walk.lift (fun _ _ _ _ _ _ _ h hx hc r => XS.irem h hx rfl (hb hc hd) rfl hy (by subst hp; exact r)) k'
theorem Walk.ineg {x : Int32} (hd : decode B pc = .ok (.ineg, 1)) (k' : Walk Z own nm rt B ml R h0 W Q ws Ts Li h cells slots pc' Ls (.int (-x) :: st)) (hp : pc + 1 = pc' := by rfl) : Walk Z own nm rt B ml R h0 W Q ws Ts Li h cells slots pc Ls (.int x :: st) :=
  Walk.lift (fun _ _ _ _ _ _ _ h hx hc r => XS.ineg h hx rfl (hb hc hd) rfl (by subst hp; exact r)) k'
theorem Walk.ladd {x y : Int64} (hd : decode B pc = .ok (.ladd, 1)) (k' : Walk Z own nm rt B ml R h0 W Q ws Ts Li h cells slots pc' Ls (.long (x + y) :: st)) (hp : pc + 1 = pc' := by rfl) : Walk Z own nm rt B ml R h0 W Q ws Ts Li h cells slots pc Ls (.long y :: .long x :: st) :=
  Walk.lift (fun _ _ _ _ _ _ _ h hx hc r => XT.ladd h hx rfl (hb hc hd) rfl (by subst hp; exact r)) k'
theorem Walk.lsub {x y : Int64} (hd : decode B pc = .ok (.lsub, 1)) (k' : Walk Z own nm rt B ml R h0 W Q ws Ts Li h cells slots pc' Ls (.long (x - y) :: st)) (hp : pc + 1 = pc' := by rfl) : Walk Z own nm rt B ml R h0 W Q ws Ts Li h cells slots pc Ls (.long y :: .long x :: st) :=
  Walk.lift (fun _ _ _ _ _ _ _ h hx hc r => XT.lsub h hx rfl (hb hc hd) rfl (by subst hp; exact r)) k'
theorem Walk.lmul {x y : Int64} (hd : decode B pc = .ok (.lmul, 1)) (k' : Walk Z own nm rt B ml R h0 W Q ws Ts Li h cells slots pc' Ls (.long (x * y) :: st)) (hp : pc + 1 = pc' := by rfl) : Walk Z own nm rt B ml R h0 W Q ws Ts Li h cells slots pc Ls (.long y :: .long x :: st) :=
  Walk.lift (fun _ _ _ _ _ _ _ h hx hc r => XT.lmul h hx rfl (hb hc hd) rfl (by subst hp; exact r)) k'
theorem Walk.land {x y : Int64} (hd : decode B pc = .ok (.land, 1)) (k' : Walk Z own nm rt B ml R h0 W Q ws Ts Li h cells slots pc' Ls (.long (x &&& y) :: st)) (hp : pc + 1 = pc' := by rfl) : Walk Z own nm rt B ml R h0 W Q ws Ts Li h cells slots pc Ls (.long y :: .long x :: st) :=
  Walk.lift (fun _ _ _ _ _ _ _ h hx hc r => XT.land h hx rfl (hb hc hd) rfl (by subst hp; exact r)) k'
theorem Walk.lor {x y : Int64} (hd : decode B pc = .ok (.lor, 1)) (k' : Walk Z own nm rt B ml R h0 W Q ws Ts Li h cells slots pc' Ls (.long (x ||| y) :: st)) (hp : pc + 1 = pc' := by rfl) : Walk Z own nm rt B ml R h0 W Q ws Ts Li h cells slots pc Ls (.long y :: .long x :: st) :=
  Walk.lift (fun _ _ _ _ _ _ _ h hx hc r => XT.lor h hx rfl (hb hc hd) rfl (by subst hp; exact r)) k'
theorem Walk.lxor {x y : Int64} (hd : decode B pc = .ok (.lxor, 1)) (k' : Walk Z own nm rt B ml R h0 W Q ws Ts Li h cells slots pc' Ls (.long (x ^^^ y) :: st)) (hp : pc + 1 = pc' := by rfl) : Walk Z own nm rt B ml R h0 W Q ws Ts Li h cells slots pc Ls (.long y :: .long x :: st) :=
  Walk.lift (fun _ _ _ _ _ _ _ h hx hc r => XT.lxor h hx rfl (hb hc hd) rfl (by subst hp; exact r)) k'
theorem Walk.ldiv {x y : Int64} (hd : decode B pc = .ok (.ldiv, 1)) (hy : y ≠ 0) (k' : Walk Z own nm rt B ml R h0 W Q ws Ts Li h cells slots pc' Ls (.long (x / y) :: st)) (hp : pc + 1 = pc' := by rfl) : Walk Z own nm rt B ml R h0 W Q ws Ts Li h cells slots pc Ls (.long y :: .long x :: st) :=
  Walk.lift (fun _ _ _ _ _ _ _ h hx hc r => XT.ldiv h hx rfl (hb hc hd) rfl hy (by subst hp; exact r)) k'
theorem Walk.lrem {x y : Int64} (hd : decode B pc = .ok (.lrem, 1)) (hy : y ≠ 0) (k' : Walk Z own nm rt B ml R h0 W Q ws Ts Li h cells slots pc' Ls (.long (x - (x / y) * y) :: st)) (hp : pc + 1 = pc' := by rfl) : Walk Z own nm rt B ml R h0 W Q ws Ts Li h cells slots pc Ls (.long y :: .long x :: st) :=
  Walk.lift (fun _ _ _ _ _ _ _ h hx hc r => XT.lrem h hx rfl (hb hc hd) rfl hy (by subst hp; exact r)) k'
theorem Walk.lshl {x : Int64} {y : Int32} (hd : decode B pc = .ok (.lshl, 1)) (k' : Walk Z own nm rt B ml R h0 W Q ws Ts Li h cells slots pc' Ls (.long (x <<< (y.toInt64 &&& 63)) :: st)) (hp : pc + 1 = pc' := by rfl) : Walk Z own nm rt B ml R h0 W Q ws Ts Li h cells slots pc Ls (.int y :: .long x :: st) :=
  Walk.lift (fun _ _ _ _ _ _ _ h hx hc r => XT.lshl h hx rfl (hb hc hd) rfl (by subst hp; exact r)) k'
theorem Walk.lshr {x : Int64} {y : Int32} (hd : decode B pc = .ok (.lshr, 1)) (k' : Walk Z own nm rt B ml R h0 W Q ws Ts Li h cells slots pc' Ls (.long (x >>> (y.toInt64 &&& 63)) :: st)) (hp : pc + 1 = pc' := by rfl) : Walk Z own nm rt B ml R h0 W Q ws Ts Li h cells slots pc Ls (.int y :: .long x :: st) :=
  Walk.lift (fun _ _ _ _ _ _ _ h hx hc r => XT.lshr h hx rfl (hb hc hd) rfl (by subst hp; exact r)) k'
theorem Walk.lushr {x : Int64} {y : Int32} (hd : decode B pc = .ok (.lushr, 1)) (k' : Walk Z own nm rt B ml R h0 W Q ws Ts Li h cells slots pc' Ls (.long (XT.ushrL x y) :: st)) (hp : pc + 1 = pc' := by rfl) : Walk Z own nm rt B ml R h0 W Q ws Ts Li h cells slots pc Ls (.int y :: .long x :: st) :=
  Walk.lift (fun _ _ _ _ _ _ _ h hx hc r => XT.lushr h hx rfl (hb hc hd) rfl (by subst hp; exact r)) k'
theorem Walk.lneg {x : Int64} (hd : decode B pc = .ok (.lneg, 1)) (k' : Walk Z own nm rt B ml R h0 W Q ws Ts Li h cells slots pc' Ls (.long (-x) :: st)) (hp : pc + 1 = pc' := by rfl) : Walk Z own nm rt B ml R h0 W Q ws Ts Li h cells slots pc Ls (.long x :: st) :=
  Walk.lift (fun _ _ _ _ _ _ _ h hx hc r => XT.lneg h hx rfl (hb hc hd) rfl (by subst hp; exact r)) k'
theorem Walk.lcmp {x y : Int64} (hd : decode B pc = .ok (.lcmp, 1)) (k' : Walk Z own nm rt B ml R h0 W Q ws Ts Li h cells slots pc' Ls (.int (XT.cmpL x y) :: st)) (hp : pc + 1 = pc' := by rfl) : Walk Z own nm rt B ml R h0 W Q ws Ts Li h cells slots pc Ls (.long y :: .long x :: st) :=
  Walk.lift (fun _ _ _ _ _ _ _ h hx hc r => XT.lcmp h hx rfl (hb hc hd) rfl (by subst hp; exact r)) k'
theorem Walk.i2l {x : Int32} (hd : decode B pc = .ok (.i2l, 1)) (k' : Walk Z own nm rt B ml R h0 W Q ws Ts Li h cells slots pc' Ls (.long x.toInt64 :: st)) (hp : pc + 1 = pc' := by rfl) : Walk Z own nm rt B ml R h0 W Q ws Ts Li h cells slots pc Ls (.int x :: st) :=
  Walk.lift (fun _ _ _ _ _ _ _ h hx hc r => XT.i2l h hx rfl (hb hc hd) rfl (by subst hp; exact r)) k'
theorem Walk.l2i {x : Int64} (hd : decode B pc = .ok (.l2i, 1)) (k' : Walk Z own nm rt B ml R h0 W Q ws Ts Li h cells slots pc' Ls (.int x.toInt32 :: st)) (hp : pc + 1 = pc' := by rfl) : Walk Z own nm rt B ml R h0 W Q ws Ts Li h cells slots pc Ls (.long x :: st) :=
  Walk.lift (fun _ _ _ _ _ _ _ h hx hc r => XT.l2i h hx rfl (hb hc hd) rfl (by subst hp; exact r)) k'
theorem Walk.i2b {x : Int32} (hd : decode B pc = .ok (.i2b, 1)) (k' : Walk Z own nm rt B ml R h0 W Q ws Ts Li h cells slots pc' Ls (.int x.toInt8.toInt32 :: st)) (hp : pc + 1 = pc' := by rfl) : Walk Z own nm rt B ml R h0 W Q ws Ts Li h cells slots pc Ls (.int x :: st) :=
  Walk.lift (fun _ _ _ _ _ _ _ h hx hc r => XT.i2b h hx rfl (hb hc hd) rfl (by subst hp; exact r)) k'
theorem Walk.i2c {x : Int32} (hd : decode B pc = .ok (.i2c, 1)) (k' : Walk Z own nm rt B ml R h0 W Q ws Ts Li h cells slots pc' Ls (.int x.toUInt32.toUInt16.toUInt32.toInt32 :: st)) (hp : pc + 1 = pc' := by rfl) : Walk Z own nm rt B ml R h0 W Q ws Ts Li h cells slots pc Ls (.int x :: st) :=
  Walk.lift (fun _ _ _ _ _ _ _ h hx hc r => XT.i2c h hx rfl (hb hc hd) rfl (by subst hp; exact r)) k'
theorem Walk.i2s {x : Int32} (hd : decode B pc = .ok (.i2s, 1)) (k' : Walk Z own nm rt B ml R h0 W Q ws Ts Li h cells slots pc' Ls (.int x.toInt16.toInt32 :: st)) (hp : pc + 1 = pc' := by rfl) : Walk Z own nm rt B ml R h0 W Q ws Ts Li h cells slots pc Ls (.int x :: st) :=
  Walk.lift (fun _ _ _ _ _ _ _ h hx hc r => XT.i2s h hx rfl (hb hc hd) rfl (by subst hp; exact r)) k'
theorem Walk.dup {x : Value} (hd : decode B pc = .ok (.dup, 1)) (hc1 : x.category = 1) (k' : Walk Z own nm rt B ml R h0 W Q ws Ts Li h cells slots pc' Ls (x :: x :: st)) (hp : pc + 1 = pc' := by rfl) : Walk Z own nm rt B ml R h0 W Q ws Ts Li h cells slots pc Ls (x :: st) :=
  Walk.lift (fun _ _ _ _ _ _ _ h hx hc r => XS.dup h hx rfl (hb hc hd) rfl hc1 (by subst hp; exact r)) k'
theorem Walk.pop {x : Value} (hd : decode B pc = .ok (.pop, 1)) (hc1 : x.category = 1) (k' : Walk Z own nm rt B ml R h0 W Q ws Ts Li h cells slots pc' Ls (st)) (hp : pc + 1 = pc' := by rfl) : Walk Z own nm rt B ml R h0 W Q ws Ts Li h cells slots pc Ls (x :: st) :=
  Walk.lift (fun _ _ _ _ _ _ _ h hx hc r => XT.pop h hx rfl (hb hc hd) rfl hc1 (by subst hp; exact r)) k'
theorem Walk.dupX1 {x y : Value} (hd : decode B pc = .ok (.dup_x1, 1)) (hc1 : x.category = 1) (hc2 : y.category = 1) (k' : Walk Z own nm rt B ml R h0 W Q ws Ts Li h cells slots pc' Ls (x :: y :: x :: st)) (hp : pc + 1 = pc' := by rfl) : Walk Z own nm rt B ml R h0 W Q ws Ts Li h cells slots pc Ls (x :: y :: st) :=
  Walk.lift (fun _ _ _ _ _ _ _ h hx hc r => XT.dupX1 h hx rfl (hb hc hd) rfl hc1 hc2 (by subst hp; exact r)) k'
theorem Walk.dup2 {x y : Value} (hd : decode B pc = .ok (.dup2, 1)) (hc1 : x.category = 1) (hc2 : y.category = 1) (k' : Walk Z own nm rt B ml R h0 W Q ws Ts Li h cells slots pc' Ls (x :: y :: x :: y :: st)) (hp : pc + 1 = pc' := by rfl) : Walk Z own nm rt B ml R h0 W Q ws Ts Li h cells slots pc Ls (x :: y :: st) :=
  Walk.lift (fun _ _ _ _ _ _ _ h hx hc r => XT.dup2 h hx rfl (hb hc hd) rfl hc1 hc2 (by subst hp; exact r)) k'
theorem Walk.dup2L {x : Int64} (hd : decode B pc = .ok (.dup2, 1)) (k' : Walk Z own nm rt B ml R h0 W Q ws Ts Li h cells slots pc' Ls (.long x :: .long x :: st)) (hp : pc + 1 = pc' := by rfl) : Walk Z own nm rt B ml R h0 W Q ws Ts Li h cells slots pc Ls (.long x :: st) :=
  Walk.lift (fun _ _ _ _ _ _ _ h hx hc r => XT.dup2L h hx rfl (hb hc hd) rfl (by subst hp; exact r)) k'
theorem Walk.istoreN {k : Fin 4} {x : Int32} (hd : decode B pc = .ok (.istore_n k, 1)) (hl : storeLocals Ls k.val (.int x) = some Ls') (k' : Walk Z own nm rt B ml R h0 W Q ws Ts Li h cells slots pc' Ls' (st)) (hp : pc + 1 = pc' := by rfl) : Walk Z own nm rt B ml R h0 W Q ws Ts Li h cells slots pc Ls (.int x :: st) :=
  Walk.lift (fun _ _ _ _ _ _ _ h hx hc r => XS.istoreN h hx rfl (hb hc hd) rfl hl (by subst hp; exact r)) k'
theorem Walk.istore {k : Nat} {x : Int32} (hd : decode B pc = .ok (.istore k, 2)) (hl : storeLocals Ls k (.int x) = some Ls') (k' : Walk Z own nm rt B ml R h0 W Q ws Ts Li h cells slots pc' Ls' (st)) (hp : pc + 2 = pc' := by rfl) : Walk Z own nm rt B ml R h0 W Q ws Ts Li h cells slots pc Ls (.int x :: st) :=
  Walk.lift (fun _ _ _ _ _ _ _ h hx hc r => XS.istore h hx rfl (hb hc hd) rfl hl (by subst hp; exact r)) k'
theorem Walk.lstoreN {k : Fin 4} {x : Int64} (hd : decode B pc = .ok (.lstore_n k, 1)) (hl : storeLocals Ls k.val (.long x) = some Ls') (k' : Walk Z own nm rt B ml R h0 W Q ws Ts Li h cells slots pc' Ls' (st)) (hp : pc + 1 = pc' := by rfl) : Walk Z own nm rt B ml R h0 W Q ws Ts Li h cells slots pc Ls (.long x :: st) :=
  Walk.lift (fun _ _ _ _ _ _ _ h hx hc r => XT.lstoreN h hx rfl (hb hc hd) rfl hl (by subst hp; exact r)) k'
theorem Walk.lstore {k : Nat} {x : Int64} (hd : decode B pc = .ok (.lstore k, 2)) (hl : storeLocals Ls k (.long x) = some Ls') (k' : Walk Z own nm rt B ml R h0 W Q ws Ts Li h cells slots pc' Ls' (st)) (hp : pc + 2 = pc' := by rfl) : Walk Z own nm rt B ml R h0 W Q ws Ts Li h cells slots pc Ls (.long x :: st) :=
  Walk.lift (fun _ _ _ _ _ _ _ h hx hc r => XT.lstore h hx rfl (hb hc hd) rfl hl (by subst hp; exact r)) k'
theorem Walk.astoreN {k : Fin 4} {x : Value} (hd : decode B pc = .ok (.astore_n k, 1)) (hv : x.isRef = true) (hl : storeLocals Ls k.val x = some Ls') (k' : Walk Z own nm rt B ml R h0 W Q ws Ts Li h cells slots pc' Ls' (st)) (hp : pc + 1 = pc' := by rfl) : Walk Z own nm rt B ml R h0 W Q ws Ts Li h cells slots pc Ls (x :: st) :=
  Walk.lift (fun _ _ _ _ _ _ _ h hx hc r => XS.astoreN h hx rfl (hb hc hd) rfl hv hl (by subst hp; exact r)) k'
theorem Walk.astore {k : Nat} {x : Value} (hd : decode B pc = .ok (.astore k, 2)) (hv : x.isRef = true) (hl : storeLocals Ls k x = some Ls') (k' : Walk Z own nm rt B ml R h0 W Q ws Ts Li h cells slots pc' Ls' (st)) (hp : pc + 2 = pc' := by rfl) : Walk Z own nm rt B ml R h0 W Q ws Ts Li h cells slots pc Ls (x :: st) :=
  Walk.lift (fun _ _ _ _ _ _ _ h hx hc r => XS.astore h hx rfl (hb hc hd) rfl hv hl (by subst hp; exact r)) k'
theorem Walk.iinc {k : Nat} {cst : Int} {x : Int32} (v : Int32) (hd : decode B pc = .ok (.iinc k cst, 3)) (hv : Int32.ofInt cst = v) (hl0 : Ls[k]? = some (.val (.int x))) (hl : storeLocals Ls k (.int (x + v)) = some Ls') (k' : Walk Z own nm rt B ml R h0 W Q ws Ts Li h cells slots pc' Ls' (st)) (hp : pc + 3 = pc' := by rfl) : Walk Z own nm rt B ml R h0 W Q ws Ts Li h cells slots pc Ls (st) :=
  Walk.lift (fun _ _ _ _ _ _ _ h hx hc r => XT.iincV h hx rfl v (hb hc hd) hv hl0 hl (by subst hp; exact r)) k'
theorem Walk.goto {off : Int} (hd : decode B pc = .ok (.goto off, 3)) (k' : Walk Z own nm rt B ml R h0 W Q ws Ts Li h cells slots pc' Ls (st)) (ho : 0 ≤ (pc : Int) + off := by decide) (hp : ((pc : Int) + off).toNat = pc' := by rfl) : Walk Z own nm rt B ml R h0 W Q ws Ts Li h cells slots pc Ls (st) :=
  Walk.lift (fun _ _ _ _ _ _ _ h hx hc r => XS.goto h hx rfl (pc0 := pc) (pc' := pc') rfl (hb hc hd) ho hp r) k'
theorem Walk.ifYes {off : Int} {cd : ClassFile.Cond} {x : Int32} (hd : decode B pc = .ok (.ifCond cd off, 3)) (hc1 : ifCond.holds cd x = true) (k' : Walk Z own nm rt B ml R h0 W Q ws Ts Li h cells slots pc' Ls (st)) (ho : 0 ≤ (pc : Int) + off := by decide) (hp : ((pc : Int) + off).toNat = pc' := by rfl) : Walk Z own nm rt B ml R h0 W Q ws Ts Li h cells slots pc Ls (.int x :: st) :=
  Walk.lift (fun _ _ _ _ _ _ _ h hx hc r => XS.ifYes h hx rfl (pc0 := pc) (pc' := pc') rfl (hb hc hd) rfl hc1 ho hp r) k'
theorem Walk.ifNo {cd : ClassFile.Cond} {off : Int} {x : Int32} (hd : decode B pc = .ok (.ifCond cd off, 3)) (hc1 : ifCond.holds cd x = false) (k' : Walk Z own nm rt B ml R h0 W Q ws Ts Li h cells slots pc' Ls (st)) (hp : pc + 3 = pc' := by rfl) : Walk Z own nm rt B ml R h0 W Q ws Ts Li h cells slots pc Ls (.int x :: st) :=
  Walk.lift (fun _ _ _ _ _ _ _ h hx hc r => XS.ifNo h hx rfl (hb hc hd) rfl hc1 (by subst hp; exact r)) k'
theorem Walk.icYes {off : Int} {cd : ClassFile.Cond} {x y : Int32} (hd : decode B pc = .ok (.if_icmp cd off, 3)) (hc1 : if_icmp.holds cd x y = true) (k' : Walk Z own nm rt B ml R h0 W Q ws Ts Li h cells slots pc' Ls (st)) (ho : 0 ≤ (pc : Int) + off := by decide) (hp : ((pc : Int) + off).toNat = pc' := by rfl) : Walk Z own nm rt B ml R h0 W Q ws Ts Li h cells slots pc Ls (.int y :: .int x :: st) :=
  Walk.lift (fun _ _ _ _ _ _ _ h hx hc r => XS.icmpYes h hx rfl (pc0 := pc) (pc' := pc') rfl (hb hc hd) rfl hc1 ho hp r) k'
theorem Walk.icNo {cd : ClassFile.Cond} {off : Int} {x y : Int32} (hd : decode B pc = .ok (.if_icmp cd off, 3)) (hc1 : if_icmp.holds cd x y = false) (k' : Walk Z own nm rt B ml R h0 W Q ws Ts Li h cells slots pc' Ls (st)) (hp : pc + 3 = pc' := by rfl) : Walk Z own nm rt B ml R h0 W Q ws Ts Li h cells slots pc Ls (.int y :: .int x :: st) :=
  Walk.lift (fun _ _ _ _ _ _ _ h hx hc r => XS.icmpNo h hx rfl (hb hc hd) rfl hc1 (by subst hp; exact r)) k'
theorem Walk.nullYes {off : Int} {v : Value} (hd : decode B pc = .ok (.ifnull off, 3)) (hv : v = .null) (k' : Walk Z own nm rt B ml R h0 W Q ws Ts Li h cells slots pc' Ls (st)) (ho : 0 ≤ (pc : Int) + off := by decide) (hp : ((pc : Int) + off).toNat = pc' := by rfl) : Walk Z own nm rt B ml R h0 W Q ws Ts Li h cells slots pc Ls (v :: st) :=
  Walk.lift (fun _ _ _ _ _ _ _ h hx hc r => XT.nullYes h hx rfl (pc0 := pc) (pc' := pc') rfl (hb hc hd) rfl hv ho hp r) k'
theorem Walk.nullNo {off : Int} {v : Value} (hd : decode B pc = .ok (.ifnull off, 3)) (hr : v.isRef = true) (hv : ¬ v = .null) (k' : Walk Z own nm rt B ml R h0 W Q ws Ts Li h cells slots pc' Ls (st)) (hp : pc + 3 = pc' := by rfl) : Walk Z own nm rt B ml R h0 W Q ws Ts Li h cells slots pc Ls (v :: st) :=
  Walk.lift (fun _ _ _ _ _ _ _ h hx hc r => XT.nullNo h hx rfl (hb hc hd) rfl hr hv (by subst hp; exact r)) k'
theorem Walk.nonnullYes {off : Int} {v : Value} (hd : decode B pc = .ok (.ifnonnull off, 3)) (hr : v.isRef = true) (hv : ¬ v = .null) (k' : Walk Z own nm rt B ml R h0 W Q ws Ts Li h cells slots pc' Ls (st)) (ho : 0 ≤ (pc : Int) + off := by decide) (hp : ((pc : Int) + off).toNat = pc' := by rfl) : Walk Z own nm rt B ml R h0 W Q ws Ts Li h cells slots pc Ls (v :: st) :=
  Walk.lift (fun _ _ _ _ _ _ _ h hx hc r => XT.nonnullYes h hx rfl (pc0 := pc) (pc' := pc') rfl (hb hc hd) rfl hr hv ho hp r) k'
theorem Walk.nonnullNo {off : Int} {v : Value} (hd : decode B pc = .ok (.ifnonnull off, 3)) (hv : v = .null) (k' : Walk Z own nm rt B ml R h0 W Q ws Ts Li h cells slots pc' Ls (st)) (hp : pc + 3 = pc' := by rfl) : Walk Z own nm rt B ml R h0 W Q ws Ts Li h cells slots pc Ls (v :: st) :=
  Walk.lift (fun _ _ _ _ _ _ _ h hx hc r => XT.nonnullNo h hx rfl (hb hc hd) rfl hv (by subst hp; exact r)) k'
theorem Walk.acYes {off : Int} {cd : ClassFile.ACond} {x y : Value} (hd : decode B pc = .ok (.if_acmp cd off, 3)) (h1 : x.isRef = true) (h2 : y.isRef = true) (hc1 : XT.acmp cd x y = true) (k' : Walk Z own nm rt B ml R h0 W Q ws Ts Li h cells slots pc' Ls (st)) (ho : 0 ≤ (pc : Int) + off := by decide) (hp : ((pc : Int) + off).toNat = pc' := by rfl) : Walk Z own nm rt B ml R h0 W Q ws Ts Li h cells slots pc Ls (y :: x :: st) :=
  Walk.lift (fun _ _ _ _ _ _ _ h hx hc r => XT.acmpYes h hx rfl (pc0 := pc) (pc' := pc') rfl (hb hc hd) rfl h1 h2 hc1 ho hp r) k'
theorem Walk.acNo {cd : ClassFile.ACond} {off : Int} {x y : Value} (hd : decode B pc = .ok (.if_acmp cd off, 3)) (h1 : x.isRef = true) (h2 : y.isRef = true) (hc1 : XT.acmp cd x y = false) (k' : Walk Z own nm rt B ml R h0 W Q ws Ts Li h cells slots pc' Ls (st)) (hp : pc + 3 = pc' := by rfl) : Walk Z own nm rt B ml R h0 W Q ws Ts Li h cells slots pc Ls (y :: x :: st) :=
  Walk.lift (fun _ _ _ _ _ _ _ h hx hc r => XT.acmpNo h hx rfl (hb hc hd) rfl h1 h2 hc1 (by subst hp; exact r)) k'
/-! ### steps that touch the heap -/
theorem On.kqOf {p : Program} {l : Launch} {e : Env} {s : State} {m : MethodId} {args : Array Value} {below : List Frame} {meth : Method} {c : Code} {T : State} {locs : List Loc}
    (ho : On Z own nm rt B ml R h0 ws p l e s m args below meth c Ts Li T h locs cells slots) (q : ∀ y, ws y → Fw h0 W y) : Kq h0 h W := by
  obtain ⟨vm0, k0, X, hx, eT, -, -, -, -, -, -, hws, e0, -⟩ := ho
  refine ⟨by rw [← e0, ← eT]; exact X.same.2.1, fun a cl hcl => ?_⟩
  rw [← e0] at hcl
  obtain ⟨c', h1, h2, h3, h4⟩ := X.same.2.2.2.2.2 a cl hcl
  have hlt := (Array.getElem?_eq_some_iff.mp hcl).1
  refine ⟨c', by rw [← eT]; exact h1, by rw [h2], by rw [h2], h3, fun i hi => h4 i fun hm => ?_⟩
  rcases q _ (hws _ hm) with r | r
  · rw [← e0] at r
    exact absurd r (Nat.not_le.mpr hlt)
  · exact hi r
theorem Walk.kept (q : ∀ y, ws y → Fw h0 W y) (k : Kq h0 h W → Walk Z own nm rt B ml R h0 W Q ws Ts Li h cells slots pc Ls st) : Walk Z own nm rt B ml R h0 W Q ws Ts Li h cells slots pc Ls st := by
  intro p l e s m args below meth c T locs ho
  exact k (ho.kqOf q) p l e s m args below meth c T locs ho
theorem Walk.getF {R0 O n d host : String} {index : Nat} {a : Addr} {v : Value} (w : (Cond.fieldLink own index R0 n d).before a0 Z = true ∨ (Cond.fieldLinkNest own index R0 n d host).before a0 Z = true) (via : Via Z R0 O n d) (F : Fld Z h a O n d v) (hd : decode B pc = .ok (.getfield index, 3))
    (k : Walk Z own nm rt B ml R h0 W Q ws Ts Li h cells slots pc' Ls (v :: st)) (hp : pc + 3 = pc' := by rfl) : Walk Z own nm rt B ml R h0 W Q ws Ts Li h cells slots pc Ls (.ref a :: st) := by
  intro p l e s m args below meth c T locs ho
  obtain ⟨vm0, k0, X, hx, eT, a2, a3, a4, a5, a6, a7, a8, a9, a10, hc, r⟩ := ho
  obtain ⟨T', X', e', stp⟩ := RoadKit.getF X hx a4 a5 w via eT F (g := mkF m pc Ls (.ref a :: st)) rfl rfl (hb hc hd)
  subst hp
  obtain ⟨s₂, o, h1, r2⟩ := k p l e s m args below meth c T' locs ⟨vm0, k0, X', hx, e', a2, a3, a4, a5, a6, a7, a8, a9, a10, hc, r⟩
  exact ⟨s₂, o, stp _ h1, r2⟩
theorem Walk.getS {R0 O n d : String} {index : Nat} {v : Value} (w : (Cond.fieldLink own index R0 n d).before a0 Z = true) (via : Via Z R0 O n d) (F : Sta Z Z.heap O n d v) (hd : decode B pc = .ok (.getstatic index, 3))
    (k : Walk Z own nm rt B ml R h0 W Q ws Ts Li h cells slots pc' Ls (v :: st)) (hp : pc + 3 = pc' := by rfl) : Walk Z own nm rt B ml R h0 W Q ws Ts Li h cells slots pc Ls st := by
  refine Walk.old fun E => ?_
  intro p l e s m args below meth c T locs ho
  obtain ⟨vm0, k0, X, hx, eT, a2, a3, a4, a5, a6, a7, a8, a9, a10, hc, r⟩ := ho
  obtain ⟨T', X', e', stp⟩ := RoadKit.getS (host := "") X hx a4 a5 w via eT (F.ext E) (g := mkF m pc Ls st) rfl (hb hc hd)
  subst hp
  obtain ⟨s₂, o, h1, r2⟩ := k p l e s m args below meth c T' locs ⟨vm0, k0, X', hx, e', a2, a3, a4, a5, a6, a7, a8, a9, a10, hc, r⟩
  exact ⟨s₂, o, stp _ h1, r2⟩
theorem Walk.putF {R0 O n d host C : String} {index kk : Nat} {ty : FieldType} {a : Addr} {v old : Value} (w : (Cond.fieldLink own index R0 n d).before a0 Z = true ∨ (Cond.fieldLinkNest own index R0 n d host).before a0 Z = true) (via : Via Z R0 O n d) (F : Fld Z h a O n d old) (E : Exa Z h a C)
    (L : (Cond.lays C O n d).before a0 Z = true ∨ ((Cond.laysFinal C O n d).before a0 Z = true ∧ own = O ∧ nm = "<init>")) (wi : (Cond.instantiable C kk).before a0 Z = true) (hty : parseFieldDescriptor d = some ty) (hn : narrow ty v = v) (hf : fits ty v = true) (hd : decode B pc = .ok (.putfield index, 3))
    (hz : Z.heap.size ≤ a) (hw : ws ⟨a, Jvm.RoadKit.slotOf Z O n d⟩) (k : ∀ h', Kq h h' (fun y => y = ⟨a, Jvm.RoadKit.slotOf Z O n d⟩) → Fld Z h' a O n d v → Walk Z own nm rt B ml R h0 W Q ws Ts Li h' cells slots pc' Ls st) (hp : pc + 3 = pc' := by rfl) : Walk Z own nm rt B ml R h0 W Q ws Ts Li h cells slots pc Ls (v :: .ref a :: st) := by
  intro p l e s m args below meth c T locs ho
  obtain ⟨vm0, k0, X, hx, eT, a2, a3, a4, a5, a6, a7, a8, a9, a10, hc, b1, b2, r⟩ := ho
  obtain ⟨T', h', X', e', Wr', stp⟩ := RoadKit.putF X hx a4 a5 w via eT F E (L.imp id fun q => ⟨q.1, q.2.1, b2.trans q.2.2⟩) wi hty hn hf (g := mkF m pc Ls (v :: .ref a :: st)) rfl rfl (hb hc hd)
  subst hp
  obtain ⟨s₂, o, h1, r2⟩ := k h' (Kq.of_wr Wr') (F.same Wr') p l e s m args below meth c T' _ ⟨vm0, k0, X', hx, e', a2, Nat.le_trans a3 (Nat.le_of_eq Wr'.size.symm), a4, a5, a6, Fr.snoc X' a7 hz, fun y hy => (List.mem_append.mp hy).elim (a8 y) fun q => by cases List.mem_singleton.mp q; exact hw, a9, a10, hc, b1, b2, r⟩
  exact ⟨s₂, o, stp _ h1, r2⟩
theorem Walk.newO {C : String} {index n : Nat} (w : (Cond.classLink own index C).before a0 Z = true) (wi : (Cond.instantiable C n).before a0 Z = true) (wz : (Cond.initialized C).before a0 Z = true) (hd : decode B pc = .ok (.new index, 3)) (hc1 : cells + 1 ≤ R.cells) (hl1 : slots + n ≤ R.slots)
    (k : ∀ h' x, h.size ≤ x → h0.size ≤ x → Z.heap.size ≤ x → Kq h h' noW → Exa Z h' x C → (∀ {O nm d : String} {ty : FieldType}, Laid Z a0 C O nm d → parseFieldDescriptor d = some ty → Fld Z h' x O nm d (defaultValue ty)) → Walk Z own nm rt B ml R h0 W Q ws Ts Li h' (cells + 1) (slots + n) pc' Ls (.ref x :: st)) (hp : pc + 3 = pc' := by rfl) :
    Walk Z own nm rt B ml R h0 W Q ws Ts Li h cells slots pc Ls st := by
  intro p l e s m args below meth c T locs ho
  obtain ⟨vm0, k0, X, hx, eT, a2, a3, a4, a5, a6, a7, a8, a9, a10, hc, r⟩ := ho
  obtain ⟨T', h', X', e', E', A', D', -, stp⟩ := RoadKit.newO X hx a4 a5 w wi wz eT (g := mkF m pc Ls st) rfl (hb hc hd) hc1 hl1
  subst hp
  have g1 : h0.size ≤ h.size := by rw [← a9, ← eT]; exact X.same.2.1
  have g2 : Z.heap.size ≤ h.size := Nat.le_trans (by rw [← a9]; exact a10.1) g1
  obtain ⟨s₂, o, h1, r2⟩ := k h' h.size (Nat.le_refl _) g1 g2 (Kq.of_ext E') A' D' p l e s m args below meth c T' locs ⟨vm0, k0, X', hx, e', a2, Nat.le_trans a3 E'.1, a4, a5, a6, a7, a8, a9, a10, hc, r⟩
  exact ⟨s₂, o, stp _ h1, r2⟩
theorem Av.of_new {k : ClassId} {z : Int32} {a : Addr} {ty : FieldType} (A : Arr Z h a (newA k ty z) ty) (q : ¬ z < 0) : Av Z h a ty z.toNatClampNeg (fun _ => defaultValue ty) := by
  refine ⟨_, A, sz_new _ _ _, (back32 q).2, fun i hi => ?_⟩
  simp [newA, hi]
theorem Walk.newA {aty : ArrayType} {n : Int32} (w : (Cond.arrayClass (newarray.typeOf aty)).before a0 Z = true) (hd : decode B pc = .ok (.newarray aty, 2)) (hn : ¬ n < 0) {cap : Nat} (hcap : n.toNatClampNeg ≤ cap) (hb8 : cap * 8 ≤ 536870912) (hc1 : cells + 1 ≤ R.cells) (hl1 : slots + cap ≤ R.slots)
    (k : ∀ h' x, h.size ≤ x → h0.size ≤ x → Z.heap.size ≤ x → Kq h h' noW → Av Z h' x (newarray.typeOf aty) n.toNatClampNeg (fun _ => defaultValue (newarray.typeOf aty)) → (∃ cA, Arv Z h' x cA (newarray.typeOf aty) n [] (defaultValue (newarray.typeOf aty))) → Walk Z own nm rt B ml R h0 W Q ws Ts Li h' (cells + 1) (slots + cap) pc' Ls (.ref x :: st)) (hp : pc + 2 = pc' := by rfl) :
    Walk Z own nm rt B ml R h0 W Q ws Ts Li h cells slots pc Ls (.int n :: st) := by
  intro p l e s m args below meth c T locs ho
  obtain ⟨vm0, k0, X, hx, eT, a2, a3, a4, a5, a6, a7, a8, a9, a10, hc, r⟩ := ho
  obtain ⟨T', h', cA, X', e', E', A', stp⟩ := RoadKit.newP X hx a4 w eT (g := mkF m pc Ls (.int n :: st)) rfl (hb hc hd) rfl hn hcap hb8 hc1 hl1
  subst hp
  have g1 : h0.size ≤ h.size := by rw [← a9, ← eT]; exact X.same.2.1
  have g2 : Z.heap.size ≤ h.size := Nat.le_trans (by rw [← a9]; exact a10.1) g1
  obtain ⟨s₂, o, h1, r2⟩ := k h' h.size (Nat.le_refl _) g1 g2 (Kq.of_ext E') (Av.of_new A' hn) ⟨cA, Arv.new A' hn⟩ p l e s m args below meth c T' locs ⟨vm0, k0, X', hx, e', a2, Nat.le_trans a3 E'.1, a4, a5, a6, a7, a8, a9, a10, hc, r⟩
  exact ⟨s₂, o, stp _ h1, r2⟩
theorem Walk.castY {K : String} {index : Nat} {a : Addr} (w : (Cond.classLink own index K).before a0 Z = true) (F : Ins Z h a K true) (hd : decode B pc = .ok (.checkcast index, 3))
    (k : Walk Z own nm rt B ml R h0 W Q ws Ts Li h cells slots pc' Ls (.ref a :: st)) (hp : pc + 3 = pc' := by rfl) : Walk Z own nm rt B ml R h0 W Q ws Ts Li h cells slots pc Ls (.ref a :: st) := by
  intro p l e s m args below meth c T locs ho
  obtain ⟨vm0, k0, X, hx, eT, a2, a3, a4, a5, a6, a7, a8, a9, a10, hc, r⟩ := ho
  obtain ⟨T', X', e', stp⟩ := RoadKit.castY X hx a4 a5 w eT F (g := mkF m pc Ls (.ref a :: st)) rfl rfl (hb hc hd)
  subst hp
  obtain ⟨s₂, o, h1, r2⟩ := k p l e s m args below meth c T' locs ⟨vm0, k0, X', hx, e', a2, a3, a4, a5, a6, a7, a8, a9, a10, hc, r⟩
  exact ⟨s₂, o, stp _ h1, r2⟩
theorem Walk.instY {K : String} {index : Nat} {a : Addr} (w : (Cond.classLink own index K).before a0 Z = true) (F : Ins Z h a K true) (hd : decode B pc = .ok (.instanceof index, 3))
    (k : Walk Z own nm rt B ml R h0 W Q ws Ts Li h cells slots pc' Ls (.int 1 :: st)) (hp : pc + 3 = pc' := by rfl) : Walk Z own nm rt B ml R h0 W Q ws Ts Li h cells slots pc Ls (.ref a :: st) := by
  intro p l e s m args below meth c T locs ho
  obtain ⟨vm0, k0, X, hx, eT, a2, a3, a4, a5, a6, a7, a8, a9, a10, hc, r⟩ := ho
  obtain ⟨T', X', e', stp⟩ := RoadKit.instY X hx a4 a5 w eT F (g := mkF m pc Ls (.ref a :: st)) rfl rfl (hb hc hd)
  subst hp
  obtain ⟨s₂, o, h1, r2⟩ := k p l e s m args below meth c T' locs ⟨vm0, k0, X', hx, e', a2, a3, a4, a5, a6, a7, a8, a9, a10, hc, r⟩
  exact ⟨s₂, o, stp _ h1, r2⟩
/-! arrays -/
theorem Walk.alen {a : Addr} {ty : FieldType} {n : Nat} {f : Nat → Value} (F : Av Z h a ty n f) (hd : decode B pc = .ok (.arraylength, 1)) {z : Int32} (hz : n.toInt32 = z)
    (k : Walk Z own nm rt B ml R h0 W Q ws Ts Li h cells slots pc' Ls (.int z :: st)) (hp : pc + 1 = pc' := by rfl) : Walk Z own nm rt B ml R h0 W Q ws Ts Li h cells slots pc Ls (.ref a :: st) := by
  intro p l e s m args below meth c T locs ho
  obtain ⟨s₂, o, h1, r2⟩ := k p l e s m args below meth c T locs ho
  obtain ⟨vm0, k0, X, hx, eT, a2, a3, a4, a5, a6, a7, a8, a9, a10, hc, r⟩ := ho
  obtain ⟨cl, A, A1, A2, A3⟩ := F
  subst hp hz A1
  exact ⟨s₂, o, X.arraylength hx (by rw [eT]; exact A.1) (State.isArrayOf_alike a4.alike A.2.1) (g := mkF m pc Ls (.ref a :: st)) rfl rfl (hb hc hd) _ h1, r2⟩
theorem idx_of {j : Int32} {i n : Nat} (hj : j = Int32.ofNat i) (hi : i < n) (hn : n < 2147483648) : ¬ (j < 0 ∨ n ≤ j.toNatClampNeg) ∧ j.toNatClampNeg = i := by
  subst hj
  have q : (Int32.ofNat i).toNatClampNeg = i := by
    have := idx_in (i := i) (n := i + 1) (by omega) (by omega)
    have e : (Int32.ofNat i).toInt = i := Int32.toInt_ofNat_small (by omega)
    show (Int32.ofNat i).toInt.toNat = i
    rw [e]; rfl
  exact ⟨q.symm ▸ fun z => z.elim (fun y => by
    have e : (Int32.ofNat i).toInt = i := Int32.toInt_ofNat_small (by omega)
    rw [Int32.lt_iff_toInt_lt, e] at y
    have : (0 : Int32).toInt = 0 := rfl
    omega) (fun y => by omega), q⟩
theorem Walk.iaload {a : Addr} {n i : Nat} {f : Nat → Value} {j : Int32} {v : Value} (F : Av Z h a .int n f) (hd : decode B pc = .ok (.iaload, 1)) (hj0 : ¬ j < 0) (hj : j.toNatClampNeg = i) (hi : i < n) (hv : f i = v)
    (k : Walk Z own nm rt B ml R h0 W Q ws Ts Li h cells slots pc' Ls (v :: st)) (hp : pc + 1 = pc' := by rfl) : Walk Z own nm rt B ml R h0 W Q ws Ts Li h cells slots pc Ls (.int j :: .ref a :: st) := by
  intro p l e s m args below meth c T locs ho
  obtain ⟨s₂, o, h1, r2⟩ := k p l e s m args below meth c T locs ho
  obtain ⟨vm0, k0, X, hx, eT, a2, a3, a4, a5, a6, a7, a8, a9, a10, hc, r⟩ := ho
  obtain ⟨cl, A, A1, A2, A3⟩ := F
  subst hp hv A1 hj
  exact ⟨s₂, o, X.iaload hx (by rw [eT]; exact A.1) (State.isArrayOf_alike a4.alike A.2.1) A.2.2 (fun q => q.elim hj0 fun q => absurd hi (Nat.not_lt.mpr q)) (A3 _ hi) (g := mkF m pc Ls (.int j :: .ref a :: st)) rfl rfl (hb hc hd) _ h1, r2⟩
theorem Walk.laload {a : Addr} {n i : Nat} {f : Nat → Value} {j : Int32} {v : Value} (F : Av Z h a .long n f) (hd : decode B pc = .ok (.laload, 1)) (hj0 : ¬ j < 0) (hj : j.toNatClampNeg = i) (hi : i < n) (hv : f i = v)
    (k : Walk Z own nm rt B ml R h0 W Q ws Ts Li h cells slots pc' Ls (v :: st)) (hp : pc + 1 = pc' := by rfl) : Walk Z own nm rt B ml R h0 W Q ws Ts Li h cells slots pc Ls (.int j :: .ref a :: st) := by
  intro p l e s m args below meth c T locs ho
  obtain ⟨s₂, o, h1, r2⟩ := k p l e s m args below meth c T locs ho
  obtain ⟨vm0, k0, X, hx, eT, a2, a3, a4, a5, a6, a7, a8, a9, a10, hc, r⟩ := ho
  obtain ⟨cl, A, A1, A2, A3⟩ := F
  subst hp hv A1 hj
  exact ⟨s₂, o, X.laload hx (by rw [eT]; exact A.1) (State.isArrayOf_alike a4.alike A.2.1) A.2.2 (fun q => q.elim hj0 fun q => absurd hi (Nat.not_lt.mpr q)) (A3 _ hi) (g := mkF m pc Ls (.int j :: .ref a :: st)) rfl rfl (hb hc hd) _ h1, r2⟩
theorem Walk.caload {a : Addr} {n i : Nat} {f : Nat → Value} {j : Int32} {v : Value} (F : Av Z h a .char n f) (hd : decode B pc = .ok (.caload, 1)) (hj0 : ¬ j < 0) (hj : j.toNatClampNeg = i) (hi : i < n) (hv : f i = v)
    (k : Walk Z own nm rt B ml R h0 W Q ws Ts Li h cells slots pc' Ls (v :: st)) (hp : pc + 1 = pc' := by rfl) : Walk Z own nm rt B ml R h0 W Q ws Ts Li h cells slots pc Ls (.int j :: .ref a :: st) := by
  intro p l e s m args below meth c T locs ho
  obtain ⟨s₂, o, h1, r2⟩ := k p l e s m args below meth c T locs ho
  obtain ⟨vm0, k0, X, hx, eT, a2, a3, a4, a5, a6, a7, a8, a9, a10, hc, r⟩ := ho
  obtain ⟨cl, A, A1, A2, A3⟩ := F
  subst hp hv A1 hj
  exact ⟨s₂, o, X.caload hx (by rw [eT]; exact A.1) (State.isArrayOf_alike a4.alike A.2.1) A.2.2 (fun q => q.elim hj0 fun q => absurd hi (Nat.not_lt.mpr q)) (A3 _ hi) (g := mkF m pc Ls (.int j :: .ref a :: st)) rfl rfl (hb hc hd) _ h1, r2⟩
theorem Walk.saload {a : Addr} {n i : Nat} {f : Nat → Value} {j : Int32} {v : Value} (F : Av Z h a .short n f) (hd : decode B pc = .ok (.saload, 1)) (hj0 : ¬ j < 0) (hj : j.toNatClampNeg = i) (hi : i < n) (hv : f i = v)
    (k : Walk Z own nm rt B ml R h0 W Q ws Ts Li h cells slots pc' Ls (v :: st)) (hp : pc + 1 = pc' := by rfl) : Walk Z own nm rt B ml R h0 W Q ws Ts Li h cells slots pc Ls (.int j :: .ref a :: st) := by
  intro p l e s m args below meth c T locs ho
  obtain ⟨s₂, o, h1, r2⟩ := k p l e s m args below meth c T locs ho
  obtain ⟨vm0, k0, X, hx, eT, a2, a3, a4, a5, a6, a7, a8, a9, a10, hc, r⟩ := ho
  obtain ⟨cl, A, A1, A2, A3⟩ := F
  subst hp hv A1 hj
  exact ⟨s₂, o, X.saload hx (by rw [eT]; exact A.1) (State.isArrayOf_alike a4.alike A.2.1) A.2.2 (fun q => q.elim hj0 fun q => absurd hi (Nat.not_lt.mpr q)) (A3 _ hi) (g := mkF m pc Ls (.int j :: .ref a :: st)) rfl rfl (hb hc hd) _ h1, r2⟩
theorem Walk.baload {a : Addr} {n i : Nat} {f : Nat → Value} {j : Int32} {v : Value} (F : Av Z h a .byte n f) (hd : decode B pc = .ok (.baload, 1)) (hj0 : ¬ j < 0) (hj : j.toNatClampNeg = i) (hi : i < n) (hv : f i = v)
    (k : Walk Z own nm rt B ml R h0 W Q ws Ts Li h cells slots pc' Ls (v :: st)) (hp : pc + 1 = pc' := by rfl) : Walk Z own nm rt B ml R h0 W Q ws Ts Li h cells slots pc Ls (.int j :: .ref a :: st) := by
  intro p l e s m args below meth c T locs ho
  obtain ⟨s₂, o, h1, r2⟩ := k p l e s m args below meth c T locs ho
  obtain ⟨vm0, k0, X, hx, eT, a2, a3, a4, a5, a6, a7, a8, a9, a10, hc, r⟩ := ho
  obtain ⟨cl, A, A1, A2, A3⟩ := F
  subst hp hv A1 hj
  exact ⟨s₂, o, X.baloadBytes hx (by rw [eT]; exact A.1) (State.isArrayOf_alike a4.alike A.2.1) A.2.2 (fun q => q.elim hj0 fun q => absurd hi (Nat.not_lt.mpr q)) (A3 _ hi) (g := mkF m pc Ls (.int j :: .ref a :: st)) rfl rfl (hb hc hd) _ h1, r2⟩
theorem Walk.zaload {a : Addr} {n i : Nat} {f : Nat → Value} {j : Int32} {v : Value} (F : Av Z h a .boolean n f) (hd : decode B pc = .ok (.baload, 1)) (hj0 : ¬ j < 0) (hj : j.toNatClampNeg = i) (hi : i < n) (hv : f i = v)
    (k : Walk Z own nm rt B ml R h0 W Q ws Ts Li h cells slots pc' Ls (v :: st)) (hp : pc + 1 = pc' := by rfl) : Walk Z own nm rt B ml R h0 W Q ws Ts Li h cells slots pc Ls (.int j :: .ref a :: st) := by
  intro p l e s m args below meth c T locs ho
  obtain ⟨s₂, o, h1, r2⟩ := k p l e s m args below meth c T locs ho
  obtain ⟨vm0, k0, X, hx, eT, a2, a3, a4, a5, a6, a7, a8, a9, a10, hc, r⟩ := ho
  obtain ⟨cl, A, A1, A2, A3⟩ := F
  subst hp hv A1 hj
  exact ⟨s₂, o, X.baloadBooleans hx (by rw [eT]; exact A.1) (State.isArrayOf_alike a4.alike A.2.1) A.2.2 (fun q => q.elim hj0 fun q => absurd hi (Nat.not_lt.mpr q)) (A3 _ hi) (g := mkF m pc Ls (.int j :: .ref a :: st)) rfl rfl (hb hc hd) _ h1, r2⟩
theorem Walk.aaload {a : Addr} {ty : FieldType} {n i : Nat} {f : Nat → Value} {j : Int32} {v : Value} (F : Av Z h a ty n f) (hty : ty.isReference = true) (hd : decode B pc = .ok (.aaload, 1)) (hj0 : ¬ j < 0) (hj : j.toNatClampNeg = i) (hi : i < n) (hv : f i = v)
    (k : Walk Z own nm rt B ml R h0 W Q ws Ts Li h cells slots pc' Ls (v :: st)) (hp : pc + 1 = pc' := by rfl) : Walk Z own nm rt B ml R h0 W Q ws Ts Li h cells slots pc Ls (.int j :: .ref a :: st) := by
  intro p l e s m args below meth c T locs ho
  obtain ⟨s₂, o, h1, r2⟩ := k p l e s m args below meth c T locs ho
  obtain ⟨vm0, k0, X, hx, eT, a2, a3, a4, a5, a6, a7, a8, a9, a10, hc, r⟩ := ho
  obtain ⟨cl, A, A1, A2, A3⟩ := F
  subst hp hv A1 hj
  exact ⟨s₂, o, X.aaload hx (by rw [eT]; exact A.1) (State.isArrayOf_alike a4.alike A.2.1) hty A.2.2 (fun q => q.elim hj0 fun q => absurd hi (Nat.not_lt.mpr q)) (A3 _ hi) (g := mkF m pc Ls (.int j :: .ref a :: st)) rfl rfl (hb hc hd) _ h1, r2⟩
theorem Av.wr {a : Addr} {ty : FieldType} {n i : Nat} {f : Nat → Value} {v : Value} {h' : Heap} (F : Av Z h a ty n f) (Wr' : Wr h h' a i v) : Av Z h' a ty n (fun k => if k = i then v else f k) := by
  obtain ⟨cl, A, A1, A2, A3⟩ := F
  refine ⟨_, A.same Wr', by simp [Cell.setSlot, A1], A2, fun k hk => ?_⟩
  obtain ⟨_, _, _, hlt, -⟩ := Wr'
  by_cases e : k = i
  · subst e
    simp [Cell.setSlot, A1, hk]
  · show _ = some (if k = i then v else f k)
    rw [if_neg e]
    simp only [Cell.setSlot]
    rw [Array.getElem?_setIfInBounds_ne (Ne.symm e)]; exact A3 k hk
theorem Walk.iastore {a : Addr} {n i : Nat} {f : Nat → Value} {j : Int32} {x : Int32} (F : Av Z h a .int n f) (hd : decode B pc = .ok (.iastore, 1)) (hj0 : ¬ j < 0) (hj : j.toNatClampNeg = i) (hi : i < n) (hz : Z.heap.size ≤ a) (hw : ws ⟨a, i⟩)
    (k : ∀ h', Kq h h' (fun y => y = ⟨a, i⟩) → Av Z h' a .int n (fun k => if k = i then .int x else f k) → Wr h h' a i (.int x) → Walk Z own nm rt B ml R h0 W Q ws Ts Li h' cells slots pc' Ls st) (hp : pc + 1 = pc' := by rfl) : Walk Z own nm rt B ml R h0 W Q ws Ts Li h cells slots pc Ls (.int x :: .int j :: .ref a :: st) := by
  intro p l e s m args below meth c T locs ho
  obtain ⟨vm0, k0, X, hx, eT, a2, a3, a4, a5, a6, a7, a8, a9, a10, hc, r⟩ := ho
  obtain ⟨cl, A, A1, A2, A3⟩ := id F
  subst hp hj
  obtain ⟨T', h', X', e', Wr', stp⟩ := RoadKit.stI X hx a4 eT A (x := x) (fun q => q.elim hj0 fun q => absurd hi (Nat.not_lt.mpr (A1 ▸ q))) (g := mkF m pc Ls (.int x :: .int j :: .ref a :: st)) rfl rfl (hb hc hd)
  obtain ⟨s₂, o, h1, r2⟩ := k h' (Kq.of_wr Wr') (F.wr Wr') Wr' p l e s m args below meth c T' _ ⟨vm0, k0, X', hx, e', a2, Nat.le_trans a3 (Nat.le_of_eq Wr'.size.symm), a4, a5, a6, Fr.snoc X' a7 hz, fun y hy => (List.mem_append.mp hy).elim (a8 y) fun q => by cases List.mem_singleton.mp q; exact hw, a9, a10, hc, r⟩
  exact ⟨s₂, o, stp _ h1, r2⟩
theorem Walk.lastore {a : Addr} {n i : Nat} {f : Nat → Value} {j : Int32} {x : Int64} (F : Av Z h a .long n f) (hd : decode B pc = .ok (.lastore, 1)) (hj0 : ¬ j < 0) (hj : j.toNatClampNeg = i) (hi : i < n) (hz : Z.heap.size ≤ a) (hw : ws ⟨a, i⟩)
    (k : ∀ h', Kq h h' (fun y => y = ⟨a, i⟩) → Av Z h' a .long n (fun k => if k = i then .long x else f k) → Wr h h' a i (.long x) → Walk Z own nm rt B ml R h0 W Q ws Ts Li h' cells slots pc' Ls st) (hp : pc + 1 = pc' := by rfl) : Walk Z own nm rt B ml R h0 W Q ws Ts Li h cells slots pc Ls (.long x :: .int j :: .ref a :: st) := by
  intro p l e s m args below meth c T locs ho
  obtain ⟨vm0, k0, X, hx, eT, a2, a3, a4, a5, a6, a7, a8, a9, a10, hc, r⟩ := ho
  obtain ⟨cl, A, A1, A2, A3⟩ := id F
  subst hp hj
  obtain ⟨T', h', X', e', Wr', stp⟩ := RoadKit.stJ X hx a4 eT A (x := x) (fun q => q.elim hj0 fun q => absurd hi (Nat.not_lt.mpr (A1 ▸ q))) (g := mkF m pc Ls (.long x :: .int j :: .ref a :: st)) rfl rfl (hb hc hd)
  obtain ⟨s₂, o, h1, r2⟩ := k h' (Kq.of_wr Wr') (F.wr Wr') Wr' p l e s m args below meth c T' _ ⟨vm0, k0, X', hx, e', a2, Nat.le_trans a3 (Nat.le_of_eq Wr'.size.symm), a4, a5, a6, Fr.snoc X' a7 hz, fun y hy => (List.mem_append.mp hy).elim (a8 y) fun q => by cases List.mem_singleton.mp q; exact hw, a9, a10, hc, r⟩
  exact ⟨s₂, o, stp _ h1, r2⟩
theorem Walk.castore {a : Addr} {n i : Nat} {f : Nat → Value} {j : Int32} {x : Int32} (F : Av Z h a .char n f) (hd : decode B pc = .ok (.castore, 1)) (hj0 : ¬ j < 0) (hj : j.toNatClampNeg = i) (hi : i < n) (hz : Z.heap.size ≤ a) (hw : ws ⟨a, i⟩)
    (k : ∀ h', Kq h h' (fun y => y = ⟨a, i⟩) → Av Z h' a .char n (fun k => if k = i then .int (nar .char x) else f k) → Wr h h' a i (.int (nar .char x)) → Walk Z own nm rt B ml R h0 W Q ws Ts Li h' cells slots pc' Ls st) (hp : pc + 1 = pc' := by rfl) : Walk Z own nm rt B ml R h0 W Q ws Ts Li h cells slots pc Ls (.int x :: .int j :: .ref a :: st) := by
  intro p l e s m args below meth c T locs ho
  obtain ⟨vm0, k0, X, hx, eT, a2, a3, a4, a5, a6, a7, a8, a9, a10, hc, r⟩ := ho
  obtain ⟨cl, A, A1, A2, A3⟩ := id F
  subst hp hj
  obtain ⟨T', h', X', e', Wr', stp⟩ := RoadKit.stC X hx a4 eT A (x := x) (fun q => q.elim hj0 fun q => absurd hi (Nat.not_lt.mpr (A1 ▸ q))) (g := mkF m pc Ls (.int x :: .int j :: .ref a :: st)) rfl rfl (hb hc hd)
  obtain ⟨s₂, o, h1, r2⟩ := k h' (Kq.of_wr Wr') (F.wr Wr') Wr' p l e s m args below meth c T' _ ⟨vm0, k0, X', hx, e', a2, Nat.le_trans a3 (Nat.le_of_eq Wr'.size.symm), a4, a5, a6, Fr.snoc X' a7 hz, fun y hy => (List.mem_append.mp hy).elim (a8 y) fun q => by cases List.mem_singleton.mp q; exact hw, a9, a10, hc, r⟩
  exact ⟨s₂, o, stp _ h1, r2⟩
theorem Walk.sastore {a : Addr} {n i : Nat} {f : Nat → Value} {j : Int32} {x : Int32} (F : Av Z h a .short n f) (hd : decode B pc = .ok (.sastore, 1)) (hj0 : ¬ j < 0) (hj : j.toNatClampNeg = i) (hi : i < n) (hz : Z.heap.size ≤ a) (hw : ws ⟨a, i⟩)
    (k : ∀ h', Kq h h' (fun y => y = ⟨a, i⟩) → Av Z h' a .short n (fun k => if k = i then .int (nar .short x) else f k) → Wr h h' a i (.int (nar .short x)) → Walk Z own nm rt B ml R h0 W Q ws Ts Li h' cells slots pc' Ls st) (hp : pc + 1 = pc' := by rfl) : Walk Z own nm rt B ml R h0 W Q ws Ts Li h cells slots pc Ls (.int x :: .int j :: .ref a :: st) := by
  intro p l e s m args below meth c T locs ho
  obtain ⟨vm0, k0, X, hx, eT, a2, a3, a4, a5, a6, a7, a8, a9, a10, hc, r⟩ := ho
  obtain ⟨cl, A, A1, A2, A3⟩ := id F
  subst hp hj
  obtain ⟨T', h', X', e', Wr', stp⟩ := RoadKit.stS X hx a4 eT A (x := x) (fun q => q.elim hj0 fun q => absurd hi (Nat.not_lt.mpr (A1 ▸ q))) (g := mkF m pc Ls (.int x :: .int j :: .ref a :: st)) rfl rfl (hb hc hd)
  obtain ⟨s₂, o, h1, r2⟩ := k h' (Kq.of_wr Wr') (F.wr Wr') Wr' p l e s m args below meth c T' _ ⟨vm0, k0, X', hx, e', a2, Nat.le_trans a3 (Nat.le_of_eq Wr'.size.symm), a4, a5, a6, Fr.snoc X' a7 hz, fun y hy => (List.mem_append.mp hy).elim (a8 y) fun q => by cases List.mem_singleton.mp q; exact hw, a9, a10, hc, r⟩
  exact ⟨s₂, o, stp _ h1, r2⟩
theorem Walk.bastore {a : Addr} {n i : Nat} {f : Nat → Value} {j : Int32} {x : Int32} (F : Av Z h a .byte n f) (hd : decode B pc = .ok (.bastore, 1)) (hj0 : ¬ j < 0) (hj : j.toNatClampNeg = i) (hi : i < n) (hz : Z.heap.size ≤ a) (hw : ws ⟨a, i⟩)
    (k : ∀ h', Kq h h' (fun y => y = ⟨a, i⟩) → Av Z h' a .byte n (fun k => if k = i then .int (nar .byte x) else f k) → Wr h h' a i (.int (nar .byte x)) → Walk Z own nm rt B ml R h0 W Q ws Ts Li h' cells slots pc' Ls st) (hp : pc + 1 = pc' := by rfl) : Walk Z own nm rt B ml R h0 W Q ws Ts Li h cells slots pc Ls (.int x :: .int j :: .ref a :: st) := by
  intro p l e s m args below meth c T locs ho
  obtain ⟨vm0, k0, X, hx, eT, a2, a3, a4, a5, a6, a7, a8, a9, a10, hc, r⟩ := ho
  obtain ⟨cl, A, A1, A2, A3⟩ := id F
  subst hp hj
  obtain ⟨T', h', X', e', Wr', stp⟩ := RoadKit.stB X hx a4 eT A (x := x) (fun q => q.elim hj0 fun q => absurd hi (Nat.not_lt.mpr (A1 ▸ q))) (g := mkF m pc Ls (.int x :: .int j :: .ref a :: st)) rfl rfl (hb hc hd)
  obtain ⟨s₂, o, h1, r2⟩ := k h' (Kq.of_wr Wr') (F.wr Wr') Wr' p l e s m args below meth c T' _ ⟨vm0, k0, X', hx, e', a2, Nat.le_trans a3 (Nat.le_of_eq Wr'.size.symm), a4, a5, a6, Fr.snoc X' a7 hz, fun y hy => (List.mem_append.mp hy).elim (a8 y) fun q => by cases List.mem_singleton.mp q; exact hw, a9, a10, hc, r⟩
  exact ⟨s₂, o, stp _ h1, r2⟩
theorem Walk.zastore {a : Addr} {n i : Nat} {f : Nat → Value} {j : Int32} {x : Int32} (F : Av Z h a .boolean n f) (hd : decode B pc = .ok (.bastore, 1)) (hj0 : ¬ j < 0) (hj : j.toNatClampNeg = i) (hi : i < n) (hz : Z.heap.size ≤ a) (hw : ws ⟨a, i⟩)
    (k : ∀ h', Kq h h' (fun y => y = ⟨a, i⟩) → Av Z h' a .boolean n (fun k => if k = i then .int (nar .boolean x) else f k) → Wr h h' a i (.int (nar .boolean x)) → Walk Z own nm rt B ml R h0 W Q ws Ts Li h' cells slots pc' Ls st) (hp : pc + 1 = pc' := by rfl) : Walk Z own nm rt B ml R h0 W Q ws Ts Li h cells slots pc Ls (.int x :: .int j :: .ref a :: st) := by
  intro p l e s m args below meth c T locs ho
  obtain ⟨vm0, k0, X, hx, eT, a2, a3, a4, a5, a6, a7, a8, a9, a10, hc, r⟩ := ho
  obtain ⟨cl, A, A1, A2, A3⟩ := id F
  subst hp hj
  obtain ⟨T', h', X', e', Wr', stp⟩ := RoadKit.stZ X hx a4 eT A (x := x) (fun q => q.elim hj0 fun q => absurd hi (Nat.not_lt.mpr (A1 ▸ q))) (g := mkF m pc Ls (.int x :: .int j :: .ref a :: st)) rfl rfl (hb hc hd)
  obtain ⟨s₂, o, h1, r2⟩ := k h' (Kq.of_wr Wr') (F.wr Wr') Wr' p l e s m args below meth c T' _ ⟨vm0, k0, X', hx, e', a2, Nat.le_trans a3 (Nat.le_of_eq Wr'.size.symm), a4, a5, a6, Fr.snoc X' a7 hz, fun y hy => (List.mem_append.mp hy).elim (a8 y) fun q => by cases List.mem_singleton.mp q; exact hw, a9, a10, hc, r⟩
  exact ⟨s₂, o, stp _ h1, r2⟩
/-! ### calls -/
/-- who pays a call -/
def Pay (Z : State) (y : MethodName) (R : Room) (len Wd : Nat) (as : List Value) (h : Heap) (Ts : TsT) (Li : LiT) (k n : Nat) (V : Loc → Prop) (P : QT) : Prop :=
  ∀ l p e below s args, Z.Warmed39 s.vm → LS Z s.vm Ts Li → Ext Z.heap h → BackS l R p e below s args y len Wd (fun A a => a = as.toArray ∧ A.U.heap = h ∧ A.cells + k ≤ R.cells ∧ A.slots + n ≤ R.slots)
    (fun A _ v B => ∃ L Ts' Li', P v B.U.heap Ts' Li' ∧ LS Z B.U.vm Ts' Li' ∧ Fr Z.heap.size L ∧ (∀ y ∈ L, Fw h V y) ∧ Kq h B.U.heap V ∧ B.locs = A.locs ++ L ∧ B.cells = A.cells + k ∧ B.slots = A.slots + n)
theorem Kq.of_end {s t : State} {o : Outcome} {L : List Loc} {k n : Nat} {V : Loc → Prop} (hE : ReturnedEndW s o t L k n) (q : ∀ y ∈ L, Fw s.heap V y) : Kq s.heap t.heap V := by
  obtain ⟨-, -, -, hs⟩ := hE
  refine ⟨hs.2.1, fun a cl hcl => ?_⟩
  obtain ⟨c', h1, h2, h3, h4⟩ := hs.2.2.2.2.2 a cl hcl
  have hlt := (Array.getElem?_eq_some_iff.mp hcl).1
  refine ⟨c', h1, by rw [h2], by rw [h2], h3, fun i hi => h4 i fun hm => ?_⟩
  rcases q _ hm with r | r
  · exact absurd r (Nat.not_le.mpr hlt)
  · exact hi r
theorem Con.pay {y : MethodName} {bytes : ByteArray} {maxL : Nat} {ret : Option FieldType} {rm : Room} {as : List Value} {V : Loc → Prop} {P : QT} {len Wd : Nat} (hM : Con Z y bytes maxL ret rm as h Ts Li V P) (wc : (Cond.code y bytes maxL ret).before a0 Z = true) (wz : (Cond.initialized y.cls).before a0 Z = true)
    (hf : rm.frames + 1 ≤ R.frames) (hl : Wd + (maxL + 11) + rm.locals ≤ R.locals) : Pay Z y R len Wd as h Ts Li rm.cells rm.slots V P := by
  intro l p e below s args hZ hL hE
  exact BackS.of_freeW (bytes := bytes) (maxL := maxL) (ret := ret) (E := fun _ first o t L k n => k = rm.cells ∧ n = rm.slots ∧ ∃ v Ts' Li', o = .returned v ∧ P v t.heap Ts' Li' ∧ LS Z t.vm Ts' Li' ∧ Fr Z.heap.size L ∧ (∀ y ∈ L, Fw h V y)) (hM l []) hf hl
    (fun m meth c A a Y hp => have hU : Z.Warmed39 A.U.vm := wtrans hZ Y.warmed
      ⟨by show (Cond.and _ .tt).before a A.U = true; rw [Cond.before_and, mv hU wc]; rfl, mv hU wc, mv hU wz, hp.2.2.1, hp.2.2.2⟩)
    (fun m meth c A a g mk Y hp => ⟨hp.1, wtrans hZ Y.warmed, hp.2.1, by rw [show (A.U.calling g mk a).heap = A.U.heap from rfl, hp.2.1]; exact hE, LS.warm (s := s) hL Y.warmed⟩) (fun _ _ _ _ _ _ _ _ _ => trivial)
    (fun _ _ _ _ ⟨v, L, Ts', Li', h1, h2, h3, h4, h5, h6⟩ => ⟨L, _, _, h6, rfl, rfl, v, Ts', Li', h1, h2, h3, h4, h5⟩)
    (fun m meth c A a g mk v t L k n Y hp hq hr ⟨e1, e2, v', Ts', Li', e3, e4, e5, e6, e7⟩ => by
      cases e3; subst e1 e2
      have e0 : (A.U.calling g mk a).heap = h := hp.2.1
      have e8 : Kq h t.heap V := e0 ▸ Kq.of_end hr (e0 ▸ e7)
      exact ⟨L, Ts', Li', e4, e5, e6, e7, e8, rfl, rfl, rfl⟩)
/-- a payer of the library's own (it interns nothing) -/
theorem Pay.of_back {y : MethodName} {len Wd : Nat} {as : List Value} {k n : Nat} {P : Option Value → Heap → List Loc → Prop} {V : Loc → Prop}
    (hB : ∀ l p e below s args, Z.Warmed39 s.vm → Back l R p e below s args y len Wd (fun A a => a = as.toArray ∧ A.U.heap = h ∧ A.cells + k ≤ R.cells ∧ A.slots + n ≤ R.slots) (fun A _ v B => ∃ L, P v B.U.heap L ∧ B.locs = A.locs ++ L ∧ B.cells = A.cells + k ∧ B.slots = A.slots + n))
    (hK : ∀ v h' L, P v h' L → Fr Z.heap.size L ∧ (∀ y ∈ L, Fw h V y) ∧ Kq h h' V) : Pay Z y R len Wd as h Ts Li k n V (fun v h' Ts' Li' => (∃ L, P v h' L) ∧ Ts' = Ts ∧ Li' = Li) := by
  intro l p e below s args hZ hL hE m meth c A g ig mk a X hg hsize hdg hW hn hp
  obtain ⟨v, B, X', ⟨L, hq, e1, e2, e3⟩, hst⟩ := hB l p e below s args hZ m meth c A g ig mk a X hg hsize hdg hW hn hp
  obtain ⟨k1, k2, k3⟩ := hK _ _ _ hq
  exact ⟨v, B, X'.retabled X'.warmed.wide, X'.warmed.since _, by rw [hp.2.1]; exact k3.1, ⟨L, Ts, Li, ⟨⟨L, hq⟩, rfl, rfl⟩, LS.warm (s := s) hL X'.warmed, k1, k2, k3, e1, e2, e3⟩, hst⟩
theorem Pay.mono {y : MethodName} {len Wd : Nat} {as : List Value} {k n : Nat} {P P' : QT} {V : Loc → Prop} (hP : Pay Z y R len Wd as h Ts Li k n V P) (hq : ∀ v h' Ts' Li', Kq h h' V → P v h' Ts' Li' → P' v h' Ts' Li') : Pay Z y R len Wd as h Ts Li k n V P' := by
  intro l p e below s args hZ hL hE m meth c A g ig mk a X hg hsize hdg hW hn hp
  obtain ⟨v, B, X', r1, r2, ⟨L, Ts', Li', q1, q2, q3, q4, q5, q6⟩, hst⟩ := hP l p e below s args hZ hL hE m meth c A g ig mk a X hg hsize hdg hW hn hp
  exact ⟨v, B, X', r1, r2, ⟨L, Ts', Li', hq _ _ _ _ q5 q1, q2, q3, q4, q5, q6⟩, hst⟩
/-- behind a call: the walk stands again -/
theorem On.after {p : Program} {l : Launch} {e : Env} {s : State} {m : MethodId} {args : Array Value} {below : List Frame} {meth : Method} {c : Code} {T : State} {locs : List Loc} {k n : Nat} {V : Loc → Prop} {vm0 : Vm} {k0 : Nat}
    (hx : p.tables.exec = Jvm.exec) (eT : T.heap = h) (a2 : s.Since vm0 k0) (a3 : k0 ≤ h.size) (a4 : Z.Warmed39 vm0) (a5 : vm0.findClass own = some m.cls) (a7 : Fr Z.heap.size locs) (a8 : ∀ y ∈ locs, ws y)
    (r : s.heap = h0 ∧ Ext Z.heap s.heap ∧ c.code = B ∧ c.maxLocals = ml ∧ meth.name = nm ∧ meth.sig.returnType = rt ∧ meth.locks = false) (hv : ∀ y, Fw h V y → ws y)
    {BU : State} {Bl : List Loc} {Bc Bs : Nat} (X' : Stand p l e R ((s.setVm vm0).setVm BU.vm) m args below meth c BU Bl Bc Bs) (hS : (s.setVm vm0).Since BU.vm BU.heap.size) (hg : T.heap.size ≤ BU.heap.size)
    {L : List Loc} {Ts' : TsT} {Li' : LiT} (q2 : LS Z BU.vm Ts' Li') (q3 : Fr Z.heap.size L) (q4 : ∀ y ∈ L, Fw h V y) (e1 : Bl = locs ++ L) (e2 : Bc = cells + k) (e3 : Bs = slots + n) :
    On Z own nm rt B ml R h0 ws p l e s m args below meth c Ts' Li' BU BU.heap (locs ++ L) (cells + k) (slots + n) := by
  subst e1 e2 e3
  exact ⟨BU.vm, BU.heap.size, X', hx, rfl, a2.trans hS (Nat.le_trans a3 (eT ▸ hg)), Nat.le_refl _, State.Warmed39.trans (t := s.setVm vm0) a4 hS.1, (hS.1.alike.findClass _ _).trans a5, q2, Fr.app a7 q3, fun y hy => (List.mem_append.mp hy).elim (a8 y) fun q => hv _ (q4 y q), r⟩
theorem Walk.callS {index : Nat} {y : MethodName} {bytes : ByteArray} {maxL : Nat} {ret : Option FieldType} {Wd : Nat} {as rest : List Value} {k n : Nat} {V : Loc → Prop} {P : QT}
    (wl : (Cond.methodLink own index y).before a0 Z = true) (ws1 : (Cond.static y).before a0 Z = true) (wi : (Cond.initialized y.cls).before a0 Z = true) (wc : (Cond.code y bytes maxL ret).before a0 Z = true) (hP : Pay Z y R 3 Wd as h Ts Li k n V P)
    (hlen : ∀ sig, parseMethodDescriptor y.desc = some sig → as.length = sig.parameters.length) (hd : decode B pc = .ok (.invokestatic index, 3)) (hst : st = as.reverse ++ rest) (hW : (rest.map fun v => v.category).sum ≤ Wd) (hsz : Ls.size = ml) (hc1 : cells + k ≤ R.cells) (hl1 : slots + n ≤ R.slots) (hv : h0.size ≤ h.size → ∀ y, Fw h V y → ws y)
    (kk : ∀ v h' Ts' Li', P v h' Ts' Li' → Kq h h' V → Walk Z own nm rt B ml R h0 W Q ws Ts' Li' h' (cells + k) (slots + n) pc' Ls (v.toList ++ rest)) (hy : y.cls ≠ "java/lang/invoke/MethodHandle" ∧ y.cls ≠ "java/lang/invoke/VarHandle" := by decide) (hp : pc + 3 = pc' := by rfl) :
    Walk Z own nm rt B ml R h0 W Q ws Ts Li h cells slots pc Ls st := by
  refine Walk.old fun E => ?_
  intro p l e s m args below meth c T locs ho
  obtain ⟨vm0, k0, X, hx, eT, a2, a3, a4, a5, a6, a7, a8, a9, a10, hc, b1, r⟩ := ho
  obtain ⟨v, vm₁, B', -, X', hS, hg, ⟨L, Ts', Li', q1, q2, q3, q4, q5, e1, e2, e3⟩, stp⟩ := RoadKit.callSS X hx (y := y) a5 (mvT a4 wl) (mvT a4 ws1) (mvT a4 wi) (mvT a4 wc) hy (hP l p e below _ args a4 a6 E) (g := mkF m pc Ls st) rfl (hsz.trans b1.symm) (argsL := as) (rest := rest) hlen hst (by show 2 * 0 + _ ≤ _; omega) (hb hc hd) (fun _ _ => ⟨rfl, eT, hc1, hl1⟩)
  subst hp
  obtain ⟨s₂, o, h1, r2⟩ := kk v _ Ts' Li' q1 q5 p l e s m args below meth c B'.U _ (On.after (k := k) (n := n) hx eT a2 a3 a4 a5 a7 a8 ⟨a9, a10, hc, b1, r⟩ (hv (by rw [← a9, ← eT]; exact X.same.2.1)) X' hS hg q2 q3 q4 e1 e2 e3)
  exact ⟨s₂, o, stp.trans h1, r2⟩
theorem Walk.callI {index : Nat} {y : MethodName} {bytes : ByteArray} {maxL : Nat} {Wd : Nat} {a : Addr} {as rest : List Value} {k n : Nat} {V : Loc → Prop} {P : QT}
    (wl : (Cond.methodLink own index y).before a0 Z = true) (ws1 : (Cond.instanceMethod y).before a0 Z = true) (wc : (Cond.code y bytes maxL none).before a0 Z = true) (hP : Pay Z y R 3 Wd (.ref a :: as) h Ts Li k n V P)
    (hlen : ∀ sig, parseMethodDescriptor y.desc = some sig → as.length = sig.parameters.length) (hd : decode B pc = .ok (.invokespecial index, 3)) (hst : st = as.reverse ++ .ref a :: rest) (hW : (rest.map fun v => v.category).sum ≤ Wd) (hsz : Ls.size = ml) (hc1 : cells + k ≤ R.cells) (hl1 : slots + n ≤ R.slots) (hv : h0.size ≤ h.size → ∀ y, Fw h V y → ws y)
    (kk : ∀ v h' Ts' Li', P v h' Ts' Li' → Kq h h' V → Walk Z own nm rt B ml R h0 W Q ws Ts' Li' h' (cells + k) (slots + n) pc' Ls (v.toList ++ rest)) (hy1 : y.name = "<init>" := by rfl) (hy : y.cls ≠ "java/lang/invoke/MethodHandle" ∧ y.cls ≠ "java/lang/invoke/VarHandle" := by decide) (hp : pc + 3 = pc' := by rfl) :
    Walk Z own nm rt B ml R h0 W Q ws Ts Li h cells slots pc Ls st := by
  refine Walk.old fun E => ?_
  intro p l e s m args below meth c T locs ho
  obtain ⟨vm0, k0, X, hx, eT, a2, a3, a4, a5, a6, a7, a8, a9, a10, hc, b1, r⟩ := ho
  obtain ⟨v, vm₁, B', -, X', hS, hg, ⟨L, Ts', Li', q1, q2, q3, q4, q5, e1, e2, e3⟩, stp⟩ := X.specialBackS hx (y := y) hy1 a5 (mvT a4 wl) (mvT a4 ws1) (mvT a4 wc) hy (hP l p e below _ args a4 a6 E) (g := mkF m pc Ls st) rfl (hsz.trans b1.symm) (Steps.refl _) (a := a) (argsL := as) (rest := rest) hlen hst (by show 2 * 0 + _ ≤ _; omega) (hb hc hd) (fun _ _ => ⟨rfl, eT, hc1, hl1⟩)
  subst hp
  obtain ⟨s₂, o, h1, r2⟩ := kk v _ Ts' Li' q1 q5 p l e s m args below meth c B'.U _ (On.after (k := k) (n := n) hx eT a2 a3 a4 a5 a7 a8 ⟨a9, a10, hc, b1, r⟩ (hv (by rw [← a9, ← eT]; exact X.same.2.1)) X' hS hg q2 q3 q4 e1 e2 e3)
  exact ⟨s₂, o, stp.trans h1, r2⟩
theorem Walk.callV {index : Nat} {C : String} {y z : MethodName} {Wd : Nat} {a : Addr} {as rest : List Value} {k n : Nat} {V : Loc → Prop} {P : QT}
    (wl : (Cond.methodLink own index y).before a0 Z = true) (wd : (Cond.declares y).before a0 Z = true) (wf : (Cond.selects y.cls y y).before a0 Z = true) (wsl : (Cond.selects C y z).before a0 Z = true) (wim : (Cond.instanceMethod z).before a0 Z = true) (Ex : Exa Z h a C) (hP : Pay Z z R 3 Wd (.ref a :: as) h Ts Li k n V P)
    (hlen : ∀ sig, parseMethodDescriptor y.desc = some sig → as.length = sig.parameters.length) (hd : decode B pc = .ok (.invokevirtual index, 3)) (hst : st = as.reverse ++ .ref a :: rest) (hW : (rest.map fun v => v.category).sum ≤ Wd) (hsz : Ls.size = ml) (hc1 : cells + k ≤ R.cells) (hl1 : slots + n ≤ R.slots) (hv : h0.size ≤ h.size → ∀ y, Fw h V y → ws y)
    (kk : ∀ v h' Ts' Li', P v h' Ts' Li' → Kq h h' V → Walk Z own nm rt B ml R h0 W Q ws Ts' Li' h' (cells + k) (slots + n) pc' Ls (v.toList ++ rest)) (hy : y.cls ≠ "java/lang/invoke/MethodHandle" ∧ y.cls ≠ "java/lang/invoke/VarHandle" := by decide) (hp : pc + 3 = pc' := by rfl) :
    Walk Z own nm rt B ml R h0 W Q ws Ts Li h cells slots pc Ls st := by
  refine Walk.old fun E => ?_
  intro p l e s m args below meth c T locs ho
  obtain ⟨vm0, k0, X, hx, eT, a2, a3, a4, a5, a6, a7, a8, a9, a10, hc, b1, r⟩ := ho
  obtain ⟨cB, kB, i1, i2, i3⟩ := isOf (s := s.setVm vm0) a4 eT Ex
  obtain ⟨v, vm₁, B', -, X', hS, hg, ⟨L, Ts', Li', q1, q2, q3, q4, q5, e1, e2, e3⟩, stp⟩ := X.virtualBackS hx (y := y) (z := z) a5 (mvT a4 wl) (mvT a4 wd) (notFace_of_selects (args := #[]) (mvT a4 wf)) (mvT a4 wsl) (mvT a4 wim) hy (hP l p e below _ args a4 a6 E) i1 i3 (g := mkF m pc Ls st) rfl (hsz.trans b1.symm) (Steps.refl _) (argsL := as) (rest := rest) hlen hst (by show 2 * 0 + _ ≤ _; omega) (hb hc hd) (fun _ _ => ⟨rfl, eT, hc1, hl1⟩)
  subst hp
  obtain ⟨s₂, o, h1, r2⟩ := kk v _ Ts' Li' q1 q5 p l e s m args below meth c B'.U _ (On.after (k := k) (n := n) hx eT a2 a3 a4 a5 a7 a8 ⟨a9, a10, hc, b1, r⟩ (hv (by rw [← a9, ← eT]; exact X.same.2.1)) X' hS hg q2 q3 q4 e1 e2 e3)
  exact ⟨s₂, o, stp.trans h1, r2⟩
/-- Object.<init> -/
theorem Walk.initO {index : Nat} {a : Addr} (w1 : (Cond.methodLink own index Lib.objectInit).before a0 Z = true) (w2 : (Cond.instanceMethod Lib.objectInit).before a0 Z = true) (w3 : (Cond.code Lib.objectInit ⟨#[0xb1]⟩ 1 none).before a0 Z = true)
    (hd : decode B pc = .ok (.invokespecial index, 3)) (hsz : Ls.size = ml) {Wd : Nat} (hW : (st.map fun v => v.category).sum ≤ Wd) (hfr : 1 ≤ R.frames) (hlo : Wd + 12 ≤ R.locals) (k : Walk Z own nm rt B ml R h0 W Q ws Ts Li h cells slots pc' Ls st) (hp : pc + 3 = pc' := by rfl) : Walk Z own nm rt B ml R h0 W Q ws Ts Li h cells slots pc Ls (.ref a :: st) := by
  intro p l e s m args below meth c T locs ho
  obtain ⟨vm0, k0, X, hx, eT, a2, a3, a4, a5, a6, a7, a8, a9, a10, hc, b1, r⟩ := ho
  obtain ⟨T', X', e', stp⟩ := RoadKit.initO X hx a4 a5 w1 w2 w3 eT (g := mkF m pc Ls (.ref a :: st)) rfl (hsz.trans b1.symm) rfl (hb hc hd) hfr (W := Wd) (by show 2 * 0 + _ ≤ _; omega) hlo
  subst hp
  obtain ⟨s₂, o, h1, r2⟩ := k p l e s m args below meth c T' locs ⟨vm0, k0, X', hx, e', a2, a3, a4, a5, a6, a7, a8, a9, a10, hc, b1, r⟩
  exact ⟨s₂, o, stp _ h1, r2⟩
/-! ### constants -/
theorem Walk.ldcI {index : Nat} {v : Int32} (w : (Cond.constant own index v).before a0 Z = true) (hd : decode B pc = .ok (.ldc index, 2)) (k : Walk Z own nm rt B ml R h0 W Q ws Ts Li h cells slots pc' Ls (.int v :: st)) (hp : pc + 2 = pc' := by rfl) : Walk Z own nm rt B ml R h0 W Q ws Ts Li h cells slots pc Ls st := by
  intro p l e s m args below meth c T locs ho
  obtain ⟨s₂, o, h1, r2⟩ := k p l e s m args below meth c T locs ho
  obtain ⟨vm0, k0, X, hx, eT, a2, a3, a4, a5, a6, a7, a8, a9, a10, hc, r⟩ := ho
  subst hp
  exact ⟨s₂, o, X.ldcI (g := mkF m pc Ls st) hx a5 (mvT a4 w) rfl (hb hc hd) h1, r2⟩
theorem Walk.ldcJ {index : Nat} {v : Int64} (w : (Cond.constantLong own index v).before a0 Z = true) (hd : decode B pc = .ok (.ldc2_w index, 3)) (k : Walk Z own nm rt B ml R h0 W Q ws Ts Li h cells slots pc' Ls (.long v :: st)) (hp : pc + 3 = pc' := by rfl) : Walk Z own nm rt B ml R h0 W Q ws Ts Li h cells slots pc Ls st := by
  intro p l e s m args below meth c T locs ho
  obtain ⟨s₂, o, h1, r2⟩ := k p l e s m args below meth c T locs ho
  obtain ⟨vm0, k0, X, hx, eT, a2, a3, a4, a5, a6, a7, a8, a9, a10, hc, r⟩ := ho
  subst hp
  exact ⟨s₂, o, X.ldc2J (g := mkF m pc Ls st) hx a5 (mvT a4 w) rfl (hb hc hd) h1, r2⟩
theorem Walk.lswHit {x : Int32} {dflt : Int} {prs : Array (Int × Int)} {len : Nat} {a off : Int} (hd : decode B pc = .ok (.lookupswitch dflt prs, len)) (hso : (prs.toList.zip (prs.toList.drop 1)).all (fun (a, next) => a.1 < next.1) = true) (hf : prs.find? (·.1 == x.toInt) = some (a, off))
    (k : Walk Z own nm rt B ml R h0 W Q ws Ts Li h cells slots pc' Ls st) (ho1 : 0 ≤ (pc : Int) + off := by decide) (hp : ((pc : Int) + off).toNat = pc' := by rfl) : Walk Z own nm rt B ml R h0 W Q ws Ts Li h cells slots pc Ls (.int x :: st) := by
  intro p l e s m args below meth c T locs ho
  obtain ⟨s₂, o, h1, r2⟩ := k p l e s m args below meth c T locs ho
  obtain ⟨vm0, k0, X, hx, eT, a2, a3, a4, a5, a6, a7, a8, a9, a10, hc, r⟩ := ho
  subst hp
  exact ⟨s₂, o, X.lookupswitchHit hx (g := mkF m pc Ls (.int x :: st)) rfl rfl (hb hc hd) hso hf ho1 _ h1, r2⟩
theorem Walk.lswMiss {x : Int32} {dflt : Int} {prs : Array (Int × Int)} {len : Nat} (hd : decode B pc = .ok (.lookupswitch dflt prs, len)) (hso : (prs.toList.zip (prs.toList.drop 1)).all (fun (a, next) => a.1 < next.1) = true) (hf : prs.find? (·.1 == x.toInt) = none)
    (k : Walk Z own nm rt B ml R h0 W Q ws Ts Li h cells slots pc' Ls st) (ho1 : 0 ≤ (pc : Int) + dflt := by decide) (hp : ((pc : Int) + dflt).toNat = pc' := by rfl) : Walk Z own nm rt B ml R h0 W Q ws Ts Li h cells slots pc Ls (.int x :: st) := by
  intro p l e s m args below meth c T locs ho
  obtain ⟨s₂, o, h1, r2⟩ := k p l e s m args below meth c T locs ho
  obtain ⟨vm0, k0, X, hx, eT, a2, a3, a4, a5, a6, a7, a8, a9, a10, hc, r⟩ := ho
  subst hp
  exact ⟨s₂, o, X.lookupswitchMiss hx (g := mkF m pc Ls (.int x :: st)) rfl rfl (hb hc hd) hso hf ho1 _ h1, r2⟩
theorem Walk.tswIn {x : Int32} {dflt low high off : Int} {offs : Array Int} {len : Nat} (hd : decode B pc = .ok (.tableswitch dflt low high offs, len)) (hin : ¬ (x.toInt < low ∨ x.toInt > high)) (hoff : offs[(x.toInt - low).toNat]? = some off)
    (k : Walk Z own nm rt B ml R h0 W Q ws Ts Li h cells slots pc' Ls st) (ho1 : 0 ≤ (pc : Int) + off := by decide) (hp : ((pc : Int) + off).toNat = pc' := by rfl) : Walk Z own nm rt B ml R h0 W Q ws Ts Li h cells slots pc Ls (.int x :: st) :=
  Walk.lift (fun _ _ _ _ _ _ _ h hx hc r => XS.tswIn h hx rfl (pc0 := pc) (pc' := pc') rfl (hb hc hd) rfl hin hoff ho1 hp r) k
/-- a String constant's load that nobody has made since the law's start: its text is known -/
theorem Walk.ldcNew {index : Nat} {text : String} {Tl : List String} (w : (Cond.stringLink own index text).before a0 Z = true) (wS : ∀ a ∈ Bundle.stringAtoms, a.before a0 Z = true) (hh : Jvm.Lit.constHeld Z own index) (hcw : Jvm.Lit.compactW.before a0 Z = true) (hTs : Ts = some Tl) (hnot : text ∉ Tl) (hfresh : ∀ y, ws y → h0.size ≤ y.base)
    {vs : List Value} {z : Int32} (ht : (∀ c ∈ text.toList, c.toNat < 256) ∧ text.toList.map (fun c => Value.int (Jvm.Lit.byteI c.toNat.toUInt16)) = vs) (hz : ¬ z < 0) (hl : z.toNatClampNeg = vs.length) (hd : decode B pc = .ok (.ldc index, 2)) {n : Nat} (hn : 4 * text.toList.length ≤ n) (hbig : n ≤ 536870912) (hc1 : cells + 2 ≤ R.cells) (hl1 : slots + (n + 4) ≤ R.slots)
    (k : ∀ h' a b kb, Kq h h' noW → Exa Z h' a "java/lang/String" → Fld Z h' a "java/lang/String" "coder" "B" (.int 0) → Fld Z h' a "java/lang/String" "value" "[B" (.ref b) → Arv Z h' b kb .byte z vs (.int 0) → Walk Z own nm rt B ml R h0 W Q ws (some (text :: Tl)) ((own, index, a) :: Li) h' (cells + 2) (slots + (n + 4)) pc' Ls (.ref a :: st)) (hp : pc + 2 = pc' := by rfl) :
    Walk Z own nm rt B ml R h0 W Q ws Ts Li h cells slots pc Ls st := by
  intro p l e s m args below meth c T locs ho
  obtain ⟨vm0, k0, X, hx, eT, a2, a3, a4, a5, a6, a7, a8, a9, a10, hc, r⟩ := ho
  subst hp hTs
  have X1 : Stand p l e R ((s.setVm vm0).setVm vm0) m args below meth c T locs cells slots := X
  obtain ⟨a, T', h', k1, b, kb, X', e', E', S', hk1, hZ', hown', f1, f2, f3, f4, -, -, I', L', stp⟩ := ldcSVL X1 hx a4 a5 w wS eT (k0 := 0) ((State.WarmedH.refl (s.setVm vm0)).since _) (Nat.zero_le _) (fun y hy => by show s.heap.size ≤ _; rw [a9]; exact hfresh _ (a8 y hy)) (fun b cl q => a10.2 b cl q) (a6.1 _ rfl) hnot hh hcw ht hz hl (g := mkF m pc Ls st) rfl (hb hc hd) hn hbig hc1 hl1
  obtain ⟨s₂, o, h1, r2⟩ := k h' a b kb (Kq.of_ext E') f1 f2 f3 f4 p l e s m args below meth c T' locs ⟨T'.vm, h'.size, X', hx, e', a2.trans ⟨S'.1, fun j q hj hq => ⟨(S'.2 j q hj hq).1, Nat.lt_of_lt_of_le (S'.2 j q hj hq).2 hk1⟩⟩ (Nat.le_trans a3 E'.1), Nat.le_refl _, hZ', hown', ⟨fun T hT => by cases hT; exact I', fun hT => (by cases hT), fun q hq => (List.mem_cons.mp hq).elim (fun u => by subst u; exact L') (fun u => State.resolvedAt?_warmed39 (s := s.setVm vm0) S'.1 (a6.2.2 q u))⟩, a7, a8, a9, a10, hc, r⟩
  exact ⟨s₂, o, stp _ h1, r2⟩
/-- .. of an entry that is known to be resolved -/
theorem Walk.ldcAgain {index : Nat} {text : String} {a : Addr} (w : (Cond.stringLink own index text).before a0 Z = true) (hLi : (own, index, a) ∈ Li) (hd : decode B pc = .ok (.ldc index, 2)) (k : Walk Z own nm rt B ml R h0 W Q ws Ts Li h cells slots pc' Ls (.ref a :: st)) (hp : pc + 2 = pc' := by rfl) : Walk Z own nm rt B ml R h0 W Q ws Ts Li h cells slots pc Ls st := by
  intro p l e s m args below meth c T locs ho
  obtain ⟨s₂, o, h1, r2⟩ := k p l e s m args below meth c T locs ho
  obtain ⟨vm0, k0, X, hx, eT, a2, a3, a4, a5, a6, a7, a8, a9, a10, hc, r⟩ := ho
  subst hp
  exact ⟨s₂, o, RoadKit.ldcAgain X hx a4 a5 w (a6.2.2 _ hLi) (g := mkF m pc Ls st) rfl (hb hc hd) _ h1, r2⟩
/-! ### ends -/
theorem ReturnedEndW.mono {s t : State} {o : Outcome} {L : List Loc} {k n k' n' : Nat} (hE : ReturnedEndW s o t L k n) (hk : k ≤ k') (hn : n ≤ n') : ReturnedEndW s o t L k' n' := ⟨hE.1, hE.2.1, hE.2.2.1, hE.2.2.2.mono hk hn⟩
theorem Walk.leave {v : Option Value} (hv : rt = none → v = none) (hq : ∀ y, ws y → Fw h0 W y) (hc1 : cells ≤ R.cells) (hl1 : slots ≤ R.slots) (q : Q v h Ts Li)
    (f : ∀ (p : Program) (l : Launch) (e : Env) (s : State) (m : MethodId) (args : Array Value) (below : List Frame) (meth : Method) (c : Code) (T : State) (locs : List Loc) (fs : List Frame), Stand p l e R s m args below meth c T locs cells slots → p.tables.exec = Jvm.exec → c.code = B → meth.sig.returnType = rt →
      (∀ (f : JFrame) (acts : List Action), f.method = m → f.locked = none → f.entered = [] → (doReturn e (T.setTop f) acts v).1 = T.setFrames fs) → Steps p.tables e below (T.setTop (mkF m pc Ls st)) (T.setFrames fs)) :
    Walk Z own nm rt B ml R h0 W Q ws Ts Li h cells slots pc Ls st := by
  intro p l e s m args below meth c T locs ho
  obtain ⟨vm0, k0, X, hx, eT, a2, a3, a4, a5, a6, a7, a8, a9, a10, hc, b1, b2, b3, b4⟩ := ho
  obtain ⟨fs, hr, hrun, hended, hE⟩ := X.leaveW a2 (eT ▸ a3) (v := v) (fun q => hv (b3.symm.trans q)) b4
  exact ⟨_, _, f p l e _ m args below meth c T locs fs X hx hc b3 hr, hrun, hended, v, locs, Ts, Li, rfl, eT ▸ q, LS.warm (s := s) a6 X.warmed, a7, fun y hy => hq _ (a8 y hy), ReturnedEndW.mono hE hc1 hl1⟩
theorem Walk.ret (hd : decode B pc = .ok (.return_, 1)) (hrt : rt = none) (q : Q none h Ts Li) (hq : ∀ y, ws y → Fw h0 W y) (hc1 : cells ≤ R.cells) (hl1 : slots ≤ R.slots) : Walk Z own nm rt B ml R h0 W Q ws Ts Li h cells slots pc Ls [] :=
  Walk.leave (fun _ => rfl) hq hc1 hl1 q fun _ _ _ _ _ _ _ _ _ _ _ _ X hx hc b hr => X.returnOut hx (b.trans hrt) (hb hc hd) hr
theorem Walk.lret {x : Int64} (hd : decode B pc = .ok (.lreturn, 1)) (hrt : rt = some .long) (q : Q (some (.long x)) h Ts Li) (hq : ∀ y, ws y → Fw h0 W y) (hc1 : cells ≤ R.cells) (hl1 : slots ≤ R.slots) : Walk Z own nm rt B ml R h0 W Q ws Ts Li h cells slots pc Ls [.long x] :=
  Walk.leave (fun z => by rw [hrt] at z; cases z) hq hc1 hl1 q fun _ _ _ _ _ _ _ _ _ _ _ _ X hx hc b hr => X.lreturnOut hx (b.trans hrt) (hb hc hd) hr
theorem Walk.nret {x : Int32} {t : FieldType} (hd : decode B pc = .ok (.ireturn, 1)) (hrt : rt = some t) (ht : t = .boolean ∨ t = .byte ∨ t = .char ∨ t = .short) (q : Q (some (.int (nar t x))) h Ts Li) (hq : ∀ y, ws y → Fw h0 W y) (hc1 : cells ≤ R.cells) (hl1 : slots ≤ R.slots) : Walk Z own nm rt B ml R h0 W Q ws Ts Li h cells slots pc Ls (.int x :: st) :=
  Walk.leave (fun z => by rw [hrt] at z; cases z) hq hc1 hl1 q fun _ _ _ _ _ _ _ _ _ _ _ _ X hx hc b hr => retN X hx (b.trans hrt) ht (hb hc hd) hr
theorem Walk.iret {x : Int32} (hd : decode B pc = .ok (.ireturn, 1)) (hrt : rt = some .int) (q : Q (some (.int x)) h Ts Li) (hq : ∀ y, ws y → Fw h0 W y) (hc1 : cells ≤ R.cells) (hl1 : slots ≤ R.slots) : Walk Z own nm rt B ml R h0 W Q ws Ts Li h cells slots pc Ls (.int x :: st) :=
  Walk.leave (fun z => by rw [hrt] at z; cases z) hq hc1 hl1 q fun _ _ _ _ _ _ _ _ _ _ _ _ X hx hc b hr => retI X hx (b.trans hrt) (hb hc hd) hr
theorem Walk.aret {v : Value} {t : FieldType} (hd : decode B pc = .ok (.areturn, 1)) (hrt : rt = some t) (ht : t.isReference = true) (hv : v.isRef = true) (q : Q (some v) h Ts Li) (hq : ∀ y, ws y → Fw h0 W y) (hc1 : cells ≤ R.cells) (hl1 : slots ≤ R.slots) : Walk Z own nm rt B ml R h0 W Q ws Ts Li h cells slots pc Ls (v :: st) :=
  Walk.leave (fun z => by rw [hrt] at z; cases z) hq hc1 hl1 q fun _ _ _ _ _ _ _ _ _ _ _ _ X hx hc b hr => retR X hx (b.trans hrt) (by cases v <;> first | (cases hv; done) | (cases t <;> first | rfl | (cases ht; done))) ht hv (hb hc hd) hr
theorem Av.arv {a : Addr} {ty : FieldType} {n : Nat} {f : Nat → Value} (F : Av Z h a ty n f) {z : Int32} (hz : ¬ z < 0) (hzn : z.toNatClampNeg = n) {vs : List Value} {d : Value} (hv : ∀ i, i < n → vs.getD i d = f i) (hf : ∀ i, i < n → fits ty (f i) = true) : ∃ k, Arv Z h a k ty z vs d := by
  obtain ⟨c, A, r1, r2, r3⟩ := F
  exact ⟨c.cls, c, A, rfl, by rw [r1, hzn], hz, fun i hi => by rw [hv i (r1 ▸ hi)]; exact r3 i (r1 ▸ hi), fun i hi => by rw [hv i (r1 ▸ hi)]; exact hf i (r1 ▸ hi)⟩
theorem refNar {v : Value} {t : FieldType} (hv : v.isRef = true) (ht : t.isReference = true) : narrow t v = v := by cases v <;> first | (cases hv; done) | (cases t <;> first | rfl | (cases ht; done))
theorem refFit {v : Value} {t : FieldType} (hv : v.isRef = true) (ht : t.isReference = true) : fits t v = true := by cases v <;> first | (cases hv; done) | (cases t <;> first | rfl | (cases ht; done))
theorem cat_i (x : Int32) : (Value.int x).category = 1 := rfl
theorem cat_j (x : Int64) : (Value.long x).category = 2 := rfl
theorem cat_r (x : Addr) : (Value.ref x).category = 1 := rfl
theorem cat_n : Value.null.category = 1 := rfl
theorem stV {L L' : Array Slot} {i : Nat} {v : Value} {o : Slot} (hold : L[i]? = some o) (ho : o = .unset ∨ ∃ w, o = .val w ∧ w.category = 1) (hv : v.category = 1) (e : L.setIfInBounds i (.val v) = L') : storeLocals L i v = some L' := e ▸ XS.store1 hold ho hv
end W
end Jvm.Wk
namespace Jvm.Wk
theorem n32_toInt {i : Nat} (h : i < 2147483648) : (Int32.ofNat i).toInt = i := Int32.toInt_ofNat_small h
theorem n32_lt {i n : Nat} (hi : i < 2147483648) (hn : n < 2147483648) : (Int32.ofNat i < Int32.ofNat n) ↔ i < n := by
  rw [Int32.lt_iff_toInt_lt, n32_toInt hi, n32_toInt hn]; omega
theorem n32_succ (i : Nat) : Int32.ofNat i + 1 = Int32.ofNat (i + 1) := by
  apply Int32.toBitVec_inj.mp
  show BitVec.ofNat 32 i + 1#32 = BitVec.ofNat 32 (i + 1)
  rw [BitVec.ofNat_add]
theorem n32_nn {i : Nat} (h : i < 2147483648) : ¬ Int32.ofNat i < 0 := by
  rw [Int32.lt_iff_toInt_lt, n32_toInt h]; show ¬ ((i : Int) < 0); omega
theorem n32_nat {i : Nat} (h : i < 2147483648) : (Int32.ofNat i).toNatClampNeg = i := by
  show (Int32.ofNat i).toInt.toNat = i
  rw [n32_toInt h]; rfl
theorem n32_inj {i j : Nat} (hi : i < 2147483648) (hj : j < 2147483648) (e : Int32.ofNat i = Int32.ofNat j) : i = j := by
  have := congrArg Int32.toInt e
  rw [n32_toInt hi, n32_toInt hj] at this; omega
theorem shr0 (x : Int32) : x >>> ((0 : Int32) &&& 31) = x := by
  apply Int32.toInt_inj.mp
  rw [Jvm.RoadKit.c_ishr x 0 0 rfl]; simp
end Jvm.Wk
/- laws to paste: Road.backArv (cut by pick.py; bodies as the Statement names them) -/
namespace Jvm.Pilot.@@N@@
namespace StrChars
open Jvm Sem ClassFile Op Lib Jvm.Stand Jvm.Free.XT Jvm.Free.ALB Jvm.Free.JM Jvm.Free
open Jvm.Lib.Cold (StaticIs)
/-- a char array whose places are chars -/
def Ch (a : Addr) (A : Cell) (U : State) : Prop := Arr .char a A U ∧ Typed .char A
theorem Ch.mv {a : Addr} {A : Cell} {U U' : State} (h : Ch a A U) (hal : U.vm.Alike U'.vm) (hh : U'.heap = U.heap) : Ch a A U' := ⟨h.1.mv hal hh, h.2⟩
theorem Ch.keep {a : Addr} {A : Cell} {U U' : State} (h : Ch a A U) (hal : U.vm.Alike U'.vm) (hk : U'.heap[a]? = some A) : Ch a A U' := ⟨h.1.keep hal hk, h.2⟩
/-- what place i of a char[]'s cell holds -/
def cv (A : Cell) (i : Nat) : Int32 := match A.slots[i]? with | some (.int x) => x | _ => 0
theorem Ch.get {a : Addr} {A : Cell} {U : State} (h : Ch a A U) {i : Nat} (hi : i < A.slots.size) : A.slots[i]? = some (.int (cv A i)) := by
  have e := Array.getElem?_eq_getElem hi
  have f := h.2 i _ e
  unfold cv; rw [e]
  generalize A.slots[i] = v at f
  cases v <;> simp [fits] at f ⊢
/-- the byte that i2b leaves of a char -/
def lo8 (x : Int32) : Int32 := x.toInt8.toInt32
theorem fits_lo8 (y : Int32) : fits .byte (.int (lo8 y)) = true := by
  have h1 := y.toInt8.le_toInt
  have h2 := y.toInt8.toInt_lt
  simp only [lo8, fits, Bool.and_eq_true, decide_eq_true_eq, Int32.le_iff_toInt_le, Int8.toInt_toInt32, show (-128 : Int32).toInt = -128 from by decide, show (127 : Int32).toInt = 127 from by decide]
  omega
/-- A' is A but that each place j of lo .. hi - 1 holds f j -/
def Laid (A A' : Cell) (lo hi : Nat) (f : Nat → Value) : Prop := A'.cls = A.cls ∧ A'.vm = A.vm ∧ A'.slots.size = A.slots.size ∧ ∀ i, A'.slots[i]? = if lo ≤ i ∧ i < hi then some (f i) else A.slots[i]?
theorem Laid.zero (A : Cell) (lo : Nat) (f : Nat → Value) : Laid A A lo (lo + 0) f := ⟨rfl, rfl, rfl, fun i => by rw [if_neg (by omega)]⟩
theorem Laid.step {A Ak : Cell} {lo k : Nat} {f : Nat → Value} {v : Value} (h : Laid A Ak lo k f) (hlo : lo ≤ k) (hk : k < Ak.slots.size) (hv : v = f k) : Laid A (Ak.setSlot k v) lo (k + 1) f := by
  refine ⟨h.1, h.2.1, by simpa [Cell.setSlot] using h.2.2.1, fun i => ?_⟩
  by_cases e : k = i
  · subst e; rw [Cell.slots_setSlot_self v hk, if_pos (by omega), hv]
  · rw [Cell.slots_setSlot_ne v e, h.2.2.2 i]
    by_cases q : lo ≤ i ∧ i < k
    · rw [if_pos q, if_pos (by omega)]
    · rw [if_neg q, if_neg (by omega)]
def U16 : String := "java/lang/StringUTF16"
namespace Cmp5
def yN : MethodName := ⟨"java/lang/StringUTF16", "compress", "([CI[BII)I"⟩
abbrev yB : ByteArray := jdk_52_method_21_code
theorem d0 : decode yB 0 = .ok (.iconst 0, 1) := by decide +kernel
theorem d1 : decode yB 1 = .ok (.istore 5, 2) := by decide +kernel
theorem d3 : decode yB 3 = .ok (.iload 5, 2) := by decide +kernel
theorem d5 : decode yB 5 = .ok (.iload 4, 2) := by decide +kernel
theorem d7 : decode yB 7 = .ok (.if_icmp (.ge) 37, 3) := by decide +kernel
theorem d10 : decode yB 10 = .ok (.aload_n 0, 1) := by decide +kernel
theorem d11 : decode yB 11 = .ok (.iload_n 1, 1) := by decide +kernel
theorem d12 : decode yB 12 = .ok (.caload, 1) := by decide +kernel
theorem d13 : decode yB 13 = .ok (.istore 6, 2) := by decide +kernel
theorem d15 : decode yB 15 = .ok (.iload 6, 2) := by decide +kernel
theorem d17 : decode yB 17 = .ok (.sipush 255, 3) := by decide +kernel
theorem d20 : decode yB 20 = .ok (.if_icmp (.le) 6, 3) := by decide +kernel
theorem d26 : decode yB 26 = .ok (.aload_n 2, 1) := by decide +kernel
theorem d27 : decode yB 27 = .ok (.iload_n 3, 1) := by decide +kernel
theorem d28 : decode yB 28 = .ok (.iload 6, 2) := by decide +kernel
theorem d30 : decode yB 30 = .ok (.i2b, 1) := by decide +kernel
theorem d31 : decode yB 31 = .ok (.bastore, 1) := by decide +kernel
theorem d32 : decode yB 32 = .ok (.iinc 1 1, 3) := by decide +kernel
theorem d35 : decode yB 35 = .ok (.iinc 3 1, 3) := by decide +kernel
theorem d38 : decode yB 38 = .ok (.iinc 5 1, 3) := by decide +kernel
theorem d41 : decode yB 41 = .ok (.goto (-38), 3) := by decide +kernel
theorem d44 : decode yB 44 = .ok (.iload 4, 2) := by decide +kernel
theorem d46 : decode yB 46 = .ok (.ireturn, 1) := by decide +kernel
def site : List Cond := []
def tab : Cond := tabOf yN yB 7 (some .int) site
def P (b : Addr) (A : Cell) (d : Addr) (B : Cell) (o q len : Nat) (args : Array Value) (s : State) : Prop := args = #[.ref b, .int (Int32.ofNat o), .ref d, .int (Int32.ofNat q), .int (Int32.ofNat len)] ∧ Ch b A s ∧ Arr .byte d B s ∧ b ≠ d ∧ o + len ≤ A.slots.size ∧ q + len ≤ B.slots.size ∧ ∀ i, i < len → ¬ 255 < cv A (o + i)
def E (b : Addr) (A : Cell) (d : Addr) (B : Cell) (o q len : Nat) (r : Option Value) (s u : State) : Prop := r = some (.int (Int32.ofNat len)) ∧ ∃ B', Put d B' s u ∧ Laid B B' q (q + len) (fun j => Value.int (lo8 (cv A (o + (j - q)))))
/-- no char of the range above 255: len; the places written hold each char's low byte -/
theorem law (l : Launch) (b : Addr) (A : Cell) (d : Addr) (B : Cell) (o q len : Nat) : Law l yN 5 5 0 0 yB 7 (some .int) site (P b A d B o q len) (E b A d B o q len) (copyLocs d q len) 0 0 := by
  refine Law.of_walk (plainFor_of_name (by decide +kernel)) (by decide +kernel) (by decide +kernel) (by decide) (fun _ _ h => by rw [h.1]; rfl) (fun _ U U' hal hh h => ⟨h.1, h.2.1.mv hal hh, h.2.2.1.mv hal hh, h.2.2.2⟩) (fun r U U' V V' h1 hal h2 h => ⟨h.1, h.2.elim fun B' q => ⟨B', q.1.mv h1 h2, q.2⟩⟩) ?_
  intro p e s m args below meth c s₁ X0 hexec hbytes hml hret hlk hnm hown hh0 W hP
  obtain ⟨rfl, hA, hB, hne, l1, l2, hp⟩ := hP
  have c1 : Steps p.tables e below (s₁.setTop (entryFrame m #[.ref b, .int (Int32.ofNat o), .ref d, .int (Int32.ofNat q), .int (Int32.ofNat len)] 7)) (s₁.setTop (mkF m 0 #[.val (.ref b), .val (.int (Int32.ofNat o)), .val (.ref d), .val (.int (Int32.ofNat q)), .val (.int (Int32.ofNat len)), .unset, .unset] [])) := entry rfl
  have hA0 := hA.1.mv X0.warmed.alike hh0
  have hB0 := hB.mv X0.warmed.alike hh0
  have a31 := hA.1.2.2.2
  have c2 : Steps p.tables e below (s₁.setTop (entryFrame m #[.ref b, .int (Int32.ofNat o), .ref d, .int (Int32.ofNat q), .int (Int32.ofNat len)] 7)) (s₁.setTop (mkF m 3 #[.val (.ref b), .val (.int (Int32.ofNat o)), .val (.ref d), .val (.int (Int32.ofNat q)), .val (.int (Int32.ofNat len)), .val (.int 0), .unset] [])) := c1.trans (by
    refine iconstV X0.here hexec rfl 0 (hb hbytes d0) (by decide) ?_
    refine XS.istore X0.here hexec rfl (hb hbytes d1) rfl rfl ?_
    exact Steps.refl _)
  have loop : ∀ (r i : Nat), i + r = len → ∀ (z : Slot), (z = .unset ∨ ∃ w, z = .val w ∧ w.category = 1) → ∀ (Tl : State) (Bk : Cell), Stand p l e { frames := 0, locals := 0, cells := 0, slots := 0 } s m #[.ref b, .int (Int32.ofNat o), .ref d, .int (Int32.ofNat q), .int (Int32.ofNat len)] below meth c Tl ([] ++ copyLocs d q i) 0 0 → Put d Bk s₁ Tl → Laid B Bk q (q + i) (fun j => Value.int (lo8 (cv A (o + (j - q))))) →
      Steps p.tables e below (s₁.setTop (entryFrame m #[.ref b, .int (Int32.ofNat o), .ref d, .int (Int32.ofNat q), .int (Int32.ofNat len)] 7)) (Tl.setTop (mkF m 3 #[.val (.ref b), .val (.int (Int32.ofNat (o + i))), .val (.ref d), .val (.int (Int32.ofNat (q + i))), .val (.int (Int32.ofNat len)), .val (.int (Int32.ofNat i)), z] [])) → ∃ (T' : State) (B' : Cell) (z' : Slot), Stand p l e { frames := 0, locals := 0, cells := 0, slots := 0 } s m #[.ref b, .int (Int32.ofNat o), .ref d, .int (Int32.ofNat q), .int (Int32.ofNat len)] below meth c T' ([] ++ copyLocs d q len) 0 0 ∧ Put d B' s₁ T' ∧ Laid B B' q (q + len) (fun j => Value.int (lo8 (cv A (o + (j - q))))) ∧
      Steps p.tables e below (s₁.setTop (entryFrame m #[.ref b, .int (Int32.ofNat o), .ref d, .int (Int32.ofNat q), .int (Int32.ofNat len)] 7)) (T'.setTop (mkF m 3 #[.val (.ref b), .val (.int (Int32.ofNat (o + len))), .val (.ref d), .val (.int (Int32.ofNat (q + len))), .val (.int (Int32.ofNat len)), .val (.int (Int32.ofNat len)), z'] [])) := by
    intro r
    induction r with
    | zero =>
      intro i hi z hz Tl Bk Xl pl fl cl
      have hil : i = len := by omega
      rw [hil] at Xl fl cl
      exact ⟨Tl, Bk, z, Xl, pl, fl, cl⟩
    | succ r ih =>
      intro i hi z hz Tl Bk Xl pl fl cl
      have all := X0.warmed.alike.symm.trans Xl.warmed.alike
      have hAl := hA0.keep all (pl.other hne hA0.1)
      have hBk := hB0.like all pl.1 fl.1 fl.2.1 fl.2.2.1
      have hlt : q + i < Bk.slots.size := by rw [fl.2.2.1]; omega
      have c3 : Steps p.tables e below (s₁.setTop (entryFrame m #[.ref b, .int (Int32.ofNat o), .ref d, .int (Int32.ofNat q), .int (Int32.ofNat len)] 7)) (Tl.setTop (mkF m 12 #[.val (.ref b), .val (.int (Int32.ofNat (o + i))), .val (.ref d), .val (.int (Int32.ofNat (q + i))), .val (.int (Int32.ofNat len)), .val (.int (Int32.ofNat i)), z] [.int (Int32.ofNat (o + i)), .ref b])) := cl.trans (by
        refine XS.iload Xl.here hexec rfl (hb hbytes d3) rfl ?_
        refine XS.iload Xl.here hexec rfl (hb hbytes d5) rfl ?_
        refine XS.icmpNo Xl.here hexec rfl (hb hbytes d7) rfl (ii_ge_f (lt32 (by omega) (by omega))) ?_
        refine XS.aloadN Xl.here hexec rfl (hb hbytes d10) rfl rfl ?_
        refine XS.iloadN Xl.here hexec rfl (hb hbytes d11) rfl ?_
        exact Steps.refl _)
      have c4 : Steps p.tables e below (s₁.setTop (entryFrame m #[.ref b, .int (Int32.ofNat o), .ref d, .int (Int32.ofNat q), .int (Int32.ofNat len)] 7)) (Tl.setTop (mkF m 13 #[.val (.ref b), .val (.int (Int32.ofNat (o + i))), .val (.ref d), .val (.int (Int32.ofNat (q + i))), .val (.int (Int32.ofNat len)), .val (.int (Int32.ofNat i)), z] [.int (cv A (o + i))])) := c3.trans (by
        refine Xl.aget hexec hAl rfl (hA.get (i := o + i) (by omega)) rfl rfl (hb hbytes d12) ?_
        exact Steps.refl _)
      have c5 : Steps p.tables e below (s₁.setTop (entryFrame m #[.ref b, .int (Int32.ofNat o), .ref d, .int (Int32.ofNat q), .int (Int32.ofNat len)] 7)) (Tl.setTop (mkF m 15 #[.val (.ref b), .val (.int (Int32.ofNat (o + i))), .val (.ref d), .val (.int (Int32.ofNat (q + i))), .val (.int (Int32.ofNat len)), .val (.int (Int32.ofNat i)), .val (.int (cv A (o + i)))] [])) := c4.trans (by
        refine XS.istoreS Xl.here hexec rfl (hb hbytes d13) rfl rfl hz ?_
        exact Steps.refl _)
      have c6 : Steps p.tables e below (s₁.setTop (entryFrame m #[.ref b, .int (Int32.ofNat o), .ref d, .int (Int32.ofNat q), .int (Int32.ofNat len)] 7)) (Tl.setTop (mkF m 31 #[.val (.ref b), .val (.int (Int32.ofNat (o + i))), .val (.ref d), .val (.int (Int32.ofNat (q + i))), .val (.int (Int32.ofNat len)), .val (.int (Int32.ofNat i)), .val (.int (cv A (o + i)))] [.int (lo8 (cv A (o + i))), .int (Int32.ofNat (q + i)), .ref d])) := c5.trans (by
        refine XS.iload Xl.here hexec rfl (hb hbytes d15) rfl ?_
        refine sipushV Xl.here hexec rfl 255 (hb hbytes d17) (by decide) ?_
        refine XS.icmpYes Xl.here hexec rfl (pc0 := 20) rfl (hb hbytes d20) rfl (ii_le_t (hp i (by omega))) (by decide) rfl ?_
        refine XS.aloadN Xl.here hexec rfl (hb hbytes d26) rfl rfl ?_
        refine XS.iloadN Xl.here hexec rfl (hb hbytes d27) rfl ?_
        refine XS.iload Xl.here hexec rfl (hb hbytes d28) rfl ?_
        refine i2b Xl.here hexec rfl (hb hbytes d30) rfl ?_
        exact Steps.refl _)
      obtain ⟨T7, X7, p7, st7⟩ := Xl.aput hexec hBk rfl hlt rfl (fits_lo8 (cv A (o + i))) (g := (mkF m 31 #[.val (.ref b), .val (.int (Int32.ofNat (o + i))), .val (.ref d), .val (.int (Int32.ofNat (q + i))), .val (.int (Int32.ofNat len)), .val (.int (Int32.ofNat i)), .val (.int (cv A (o + i)))] [.int (lo8 (cv A (o + i))), .int (Int32.ofNat (q + i)), .ref d])) rfl (rest := []) rfl (hb hbytes d31)
      have c8 : Steps p.tables e below (s₁.setTop (entryFrame m #[.ref b, .int (Int32.ofNat o), .ref d, .int (Int32.ofNat q), .int (Int32.ofNat len)] 7)) (T7.setTop (mkF m 32 #[.val (.ref b), .val (.int (Int32.ofNat (o + i))), .val (.ref d), .val (.int (Int32.ofNat (q + i))), .val (.int (Int32.ofNat len)), .val (.int (Int32.ofNat i)), .val (.int (cv A (o + i)))] [])) := c6.trans (st7 _ (Steps.refl _))
      have c9 : Steps p.tables e below (s₁.setTop (entryFrame m #[.ref b, .int (Int32.ofNat o), .ref d, .int (Int32.ofNat q), .int (Int32.ofNat len)] 7)) (T7.setTop (mkF m 3 #[.val (.ref b), .val (.int (Int32.ofNat (o + i) + 1)), .val (.ref d), .val (.int (Int32.ofNat (q + i) + 1)), .val (.int (Int32.ofNat len)), .val (.int (Int32.ofNat i + 1)), .val (.int (cv A (o + i)))] [])) := c8.trans (by
        refine iincV X7.here hexec rfl 1 (hb hbytes d32) (by decide) rfl rfl ?_
        refine iincV X7.here hexec rfl 1 (hb hbytes d35) (by decide) rfl rfl ?_
        refine iincV X7.here hexec rfl 1 (hb hbytes d38) (by decide) rfl rfl ?_
        refine XS.goto X7.here hexec rfl (pc0 := 41) rfl (hb hbytes d41) (by decide) rfl ?_
        exact Steps.refl _)
      have c10 : Steps p.tables e below (s₁.setTop (entryFrame m #[.ref b, .int (Int32.ofNat o), .ref d, .int (Int32.ofNat q), .int (Int32.ofNat len)] 7)) (T7.setTop (mkF m 3 #[.val (.ref b), .val (.int (Int32.ofNat (o + (i + 1)))), .val (.ref d), .val (.int (Int32.ofNat (q + (i + 1)))), .val (.int (Int32.ofNat len)), .val (.int (Int32.ofNat (i + 1))), .val (.int (cv A (o + i)))] [])) := by
        have := c9
        rw [succ32, succ32, succ32] at this
        exact this
      exact ih (i + 1) (by omega) _ (Or.inr ⟨_, rfl, rfl⟩) T7 _ (by rw [copyLocs_step, ← List.append_assoc]; exact X7) (pl.trans p7) (fl.step (by omega) hlt (by simp)) c10
  obtain ⟨T9, B9, z9, X9, p9, f9, g9⟩ := loop len 0 (by omega) .unset (Or.inl rfl) s₁ B (by simpa [copyLocs] using X0) ⟨hB0.1, fun _ _ => rfl, rfl⟩ (Laid.zero _ _ _) c2
  have c11 : Steps p.tables e below (s₁.setTop (entryFrame m #[.ref b, .int (Int32.ofNat o), .ref d, .int (Int32.ofNat q), .int (Int32.ofNat len)] 7)) (T9.setTop (mkF m 46 #[.val (.ref b), .val (.int (Int32.ofNat (o + len))), .val (.ref d), .val (.int (Int32.ofNat (q + len))), .val (.int (Int32.ofNat len)), .val (.int (Int32.ofNat len)), z9] [.int (Int32.ofNat len)])) := g9.trans (by
    refine XS.iload X9.here hexec rfl (hb hbytes d3) rfl ?_
    refine XS.iload X9.here hexec rfl (hb hbytes d5) rfl ?_
    refine XS.icmpYes X9.here hexec rfl (pc0 := 7) rfl (hb hbytes d7) rfl (ii_ge_t (nlt32 (by omega) (Nat.le_refl _))) (by decide) rfl ?_
    refine XS.iload X9.here hexec rfl (hb hbytes d44) rfl ?_
    exact Steps.refl _)
  exact ⟨T9, some (.int (Int32.ofNat len)), _, _, _, X9, by simp, rfl, rfl, (fun h => by cases h), ⟨rfl, B9, p9.from hh0, f9⟩, fun fs hl => c11.trans (X9.ireturnOut hexec hret rfl (Or.inl rfl) (hb hbytes d46) hl)⟩
end Cmp5
namespace Cmp3
def yN : MethodName := ⟨"java/lang/StringUTF16", "compress", "([CII)[B"⟩
abbrev yB : ByteArray := jdk_52_method_16_code
theorem d0 : decode yB 0 = .ok (.iload_n 2, 1) := by decide +kernel
theorem d1 : decode yB 1 = .ok (.newarray .byte, 2) := by decide +kernel
theorem d3 : decode yB 3 = .ok (.astore_n 3, 1) := by decide +kernel
theorem d4 : decode yB 4 = .ok (.aload_n 0, 1) := by decide +kernel
theorem d5 : decode yB 5 = .ok (.iload_n 1, 1) := by decide +kernel
theorem d6 : decode yB 6 = .ok (.aload_n 3, 1) := by decide +kernel
theorem d7 : decode yB 7 = .ok (.iconst 0, 1) := by decide +kernel
theorem d8 : decode yB 8 = .ok (.iload_n 2, 1) := by decide +kernel
theorem d9 : decode yB 9 = .ok (.invokestatic 115, 3) := by decide +kernel
theorem d12 : decode yB 12 = .ok (.istore 4, 2) := by decide +kernel
theorem d14 : decode yB 14 = .ok (.iload 4, 2) := by decide +kernel
theorem d16 : decode yB 16 = .ok (.iload_n 2, 1) := by decide +kernel
theorem d17 : decode yB 17 = .ok (.if_icmp (.eq) 40, 3) := by decide +kernel
theorem d57 : decode yB 57 = .ok (.aload_n 3, 1) := by decide +kernel
theorem d58 : decode yB 58 = .ok (.areturn, 1) := by decide +kernel
def site : List Cond := [.arrayClass .byte, Cmp5.tab] ++ staticW U16 115 Cmp5.yN
def tab : Cond := tabOf yN yB 6 (some (.array .byte)) site
def P (b : Addr) (A : Cell) (o len : Nat) (args : Array Value) (s : State) : Prop := args = #[.ref b, .int (Int32.ofNat o), .int (Int32.ofNat len)] ∧ Ch b A s ∧ o + len ≤ A.slots.size ∧ len ≤ 536870912 ∧ ∀ i, i < len → ¬ 255 < cv A (o + i)
def E (b : Addr) (A : Cell) (o len : Nat) (r : Option Value) (s u : State) : Prop := NewArr .byte "[B" len (fun j => .int (lo8 (cv A (o + j)))) r s u ∧ u.heap.size = s.heap.size + 1
/-- no char of the range above 255: a new byte[] of their low bytes -/
theorem law (l : Launch) (b : Addr) (A : Cell) (o len : Nat) : Law l yN 3 3 1 18 yB 6 (some (.array .byte)) site (P b A o len) (E b A o len) [] 1 len := by
  refine Law.of_walk (plainFor_of_name (by decide +kernel)) (by decide +kernel) (by decide +kernel) (by decide) (fun _ _ h => by rw [h.1]; rfl) (fun _ U U' hal hh h => ⟨h.1, h.2.1.mv hal hh, h.2.2⟩) (fun r U U' V V' h1 hal h2 h => ⟨NewArr.mv r U U' V V' h1 hal h2 h.1, by rw [h1, h2]; exact h.2⟩) ?_
  intro p e s m args below meth c s₁ X0 hexec hbytes hml hret hlk hnm hown hh0 W hP
  obtain ⟨rfl, hA, l1, l2, hp⟩ := hP
  have a31 := hA.1.2.2.2
  have c1 : Steps p.tables e below (s₁.setTop (entryFrame m #[.ref b, .int (Int32.ofNat o), .int (Int32.ofNat len)] 6)) (s₁.setTop (mkF m 0 #[.val (.ref b), .val (.int (Int32.ofNat o)), .val (.int (Int32.ofNat len)), .unset, .unset, .unset] [])) := entry rfl
  have c2 : Steps p.tables e below (s₁.setTop (entryFrame m #[.ref b, .int (Int32.ofNat o), .int (Int32.ofNat len)] 6)) (s₁.setTop (mkF m 1 #[.val (.ref b), .val (.int (Int32.ofNat o)), .val (.int (Int32.ofNat len)), .unset, .unset, .unset] [.int (Int32.ofNat len)])) := c1.trans (by
    refine XS.iloadN X0.here hexec rfl (hb hbytes d0) rfl ?_
    exact Steps.refl _)
  obtain ⟨T3, B3, X3, ba3, bs3, bv3, bh3, bf3, st3⟩ := X0.anew hexec (atype := .byte) (wk W (.arrayClass .byte)) rfl (by show len * 1 ≤ _; omega) (by omega) (g := (mkF m 1 #[.val (.ref b), .val (.int (Int32.ofNat o)), .val (.int (Int32.ofNat len)), .unset, .unset, .unset] [.int (Int32.ofNat len)])) rfl (hb hbytes d1) (rest := []) rfl (Nat.le_refl _) (by show 0 + len ≤ len; omega)
  rw [hh0] at ba3 st3
  have kp3 : XT.Kept s T3 := (XT.Kept.of_eq hh0).push bh3
  have hA3 := hA.keep X3.warmed.alike (kp3 _ _ hA.1.1)
  have hne : b ≠ s.heap.size := hA.1.ne
  have c4 : Steps p.tables e below (s₁.setTop (entryFrame m #[.ref b, .int (Int32.ofNat o), .int (Int32.ofNat len)] 6)) (T3.setTop (mkF m 3 #[.val (.ref b), .val (.int (Int32.ofNat o)), .val (.int (Int32.ofNat len)), .unset, .unset, .unset] [.ref s.heap.size])) := c2.trans (st3 _ (Steps.refl _))
  have c5 : Steps p.tables e below (s₁.setTop (entryFrame m #[.ref b, .int (Int32.ofNat o), .int (Int32.ofNat len)] 6)) (T3.setTop (mkF m 9 #[.val (.ref b), .val (.int (Int32.ofNat o)), .val (.int (Int32.ofNat len)), .val (.ref s.heap.size), .unset, .unset] [.int (Int32.ofNat len), .int 0, .ref s.heap.size, .int (Int32.ofNat o), .ref b])) := c4.trans (by
    refine XS.astoreN X3.here hexec rfl (hb hbytes d3) rfl rfl rfl ?_
    refine XS.aloadN X3.here hexec rfl (hb hbytes d4) rfl rfl ?_
    refine XS.iloadN X3.here hexec rfl (hb hbytes d5) rfl ?_
    refine XS.aloadN X3.here hexec rfl (hb hbytes d6) rfl rfl ?_
    refine iconstV X3.here hexec rfl 0 (hb hbytes d7) (by decide) ?_
    refine XS.iloadN X3.here hexec rfl (hb hbytes d8) rfl ?_
    exact Steps.refl _)
  obtain ⟨v6, T6, X6, E6, g6⟩ := X3.callS hexec (Cmp5.law l b A s.heap.size B3 o 0 len) hown (wks W (staticW U16 115 Cmp5.yN)) (wk W Cmp5.tab) (W := 0) (Nat.le_of_ble_eq_true rfl) (Nat.le_of_ble_eq_true rfl) (Nat.le_refl _) (by show 0 + len + 0 ≤ len; omega) (g := (mkF m 9 #[.val (.ref b), .val (.int (Int32.ofNat o)), .val (.int (Int32.ofNat len)), .val (.ref s.heap.size), .unset, .unset] [.int (Int32.ofNat len), .int (Int32.ofNat 0), .ref s.heap.size, .int (Int32.ofNat o), .ref b])) rfl (by rw [hml]; rfl) c5 (argsL := [.ref b, .int (Int32.ofNat o), .ref s.heap.size, .int (Int32.ofNat 0), .int (Int32.ofNat len)]) (rest := []) rfl rfl (by show 2 * 0 + 0 ≤ _; decide) (hb hbytes d9) (⟨rfl, hA3, ba3, hne, l1, by rw [bs3]; simp, hp⟩)
  obtain ⟨rfl, B6, p6, f6⟩ := E6
  have c7 : Steps p.tables e below (s₁.setTop (entryFrame m #[.ref b, .int (Int32.ofNat o), .int (Int32.ofNat len)] 6)) (T6.setTop (mkF m 12 #[.val (.ref b), .val (.int (Int32.ofNat o)), .val (.int (Int32.ofNat len)), .val (.ref s.heap.size), .unset, .unset] [.int (Int32.ofNat len)])) := g6
  have c8 : Steps p.tables e below (s₁.setTop (entryFrame m #[.ref b, .int (Int32.ofNat o), .int (Int32.ofNat len)] 6)) (T6.setTop (mkF m 58 #[.val (.ref b), .val (.int (Int32.ofNat o)), .val (.int (Int32.ofNat len)), .val (.ref s.heap.size), .val (.int (Int32.ofNat len)), .unset] [.ref s.heap.size])) := c7.trans (by
    refine XS.istore X6.here hexec rfl (hb hbytes d12) rfl rfl ?_
    refine XS.iload X6.here hexec rfl (hb hbytes d14) rfl ?_
    refine XS.iloadN X6.here hexec rfl (hb hbytes d16) rfl ?_
    refine XS.icmpYes X6.here hexec rfl (pc0 := 17) rfl (hb hbytes d17) rfl (ii_eq_t rfl) (by decide) rfl ?_
    refine XS.aloadN X6.here hexec rfl (hb hbytes d57) rfl rfl ?_
    exact Steps.refl _)
  have X8 := X6.wide (L' := []) (cells' := 1) (slots' := len) (fun x hx hlt => by
    simp only [List.nil_append, copyLocs, List.mem_map, List.mem_range] at hx
    obtain ⟨i, -, rfl⟩ := hx
    exact absurd hlt (Nat.lt_irrefl _)) (Nat.le_refl _) (by omega)
  exact ⟨T6, some (.ref s.heap.size), _, _, _, X8, rfl, rfl, rfl, (fun h => by cases h), ⟨⟨rfl, B6, ba3.like (X3.warmed.alike.symm.trans X6.warmed.alike) p6.1 f6.1 f6.2.1 f6.2.2.1, f6.2.1.trans bv3, by rw [X6.warmed.alike.findClass, f6.1]; exact bf3, by rw [f6.2.2.1, bs3]; simp, fun j hj => by rw [f6.2.2.2 j, if_pos (by omega)]; rfl, kp3.put p6 (Nat.le_refl _)⟩, by rw [p6.2.2, bh3, hh0]; simp⟩, fun fs hl => c8.trans (X8.areturnOut hexec rfl hret rfl (hb hbytes d58) hl)⟩
end Cmp3
namespace CodL
def yN : MethodName := ⟨"java/lang/StringUTF16", "coderFromArrayLen", "([BI)B"⟩
abbrev yB : ByteArray := jdk_52_method_15_code
theorem d0 : decode yB 0 = .ok (.iload_n 1, 1) := by decide +kernel
theorem d1 : decode yB 1 = .ok (.aload_n 0, 1) := by decide +kernel
theorem d2 : decode yB 2 = .ok (.arraylength, 1) := by decide +kernel
theorem d3 : decode yB 3 = .ok (.isub, 1) := by decide +kernel
theorem d4 : decode yB 4 = .ok (.bipush 31, 2) := by decide +kernel
theorem d6 : decode yB 6 = .ok (.iushr, 1) := by decide +kernel
theorem d7 : decode yB 7 = .ok (.i2b, 1) := by decide +kernel
theorem d8 : decode yB 8 = .ok (.ireturn, 1) := by decide +kernel
def site : List Cond := []
def tab : Cond := tabOf yN yB 2 (some .byte) site
def P (d : Addr) (B : Cell) (args : Array Value) (s : State) : Prop := args = #[.ref d, .int (Int32.ofNat B.slots.size)] ∧ Arr .byte d B s
def E (r : Option Value) (s u : State) : Prop := XT.PureE (some (.int 0)) r s u
/-- an array as long as the number of chars: LATIN1 -/
theorem law (l : Launch) (d : Addr) (B : Cell) : Law l yN 2 2 0 0 yB 2 (some .byte) site (P d B) E [] 0 0 := by
  refine Law.of_walk (plainFor_of_name (by decide +kernel)) (by decide +kernel) (by decide +kernel) (by decide) (fun _ _ h => by rw [h.1]; rfl) (fun _ U U' hal hh h => ⟨h.1, h.2.mv hal hh⟩) (fun r U U' V V' h1 hal h2 h => XT.PureE.mv r U U' V V' h1 hal h2 h) ?_
  intro p e s m args below meth c s₁ X0 hexec hbytes hml hret hlk hnm hown hh0 W hP
  obtain ⟨rfl, hB⟩ := hP
  have hB0 := hB.mv X0.warmed.alike hh0
  have c1 : Steps p.tables e below (s₁.setTop (entryFrame m #[.ref d, .int (Int32.ofNat B.slots.size)] 2)) (s₁.setTop (mkF m 0 #[.val (.ref d), .val (.int (Int32.ofNat B.slots.size))] [])) := entry rfl
  have c2 : Steps p.tables e below (s₁.setTop (entryFrame m #[.ref d, .int (Int32.ofNat B.slots.size)] 2)) (s₁.setTop (mkF m 2 #[.val (.ref d), .val (.int (Int32.ofNat B.slots.size))] [.ref d, .int (Int32.ofNat B.slots.size)])) := c1.trans (by
    refine XS.iloadN X0.here hexec rfl (hb hbytes d0) rfl ?_
    refine XS.aloadN X0.here hexec rfl (hb hbytes d1) rfl rfl ?_
    exact Steps.refl _)
  have c3 : Steps p.tables e below (s₁.setTop (entryFrame m #[.ref d, .int (Int32.ofNat B.slots.size)] 2)) (s₁.setTop (mkF m 8 #[.val (.ref d), .val (.int (Int32.ofNat B.slots.size))] [.int (lo8 (ushr (Int32.ofNat B.slots.size - Int32.ofNat B.slots.size) 31))])) := c2.trans (by
    refine X0.alen hexec hB0 rfl rfl (hb hbytes d2) ?_
    refine XS.isub X0.here hexec rfl (hb hbytes d3) rfl ?_
    refine bipushV X0.here hexec rfl 31 (hb hbytes d4) (by decide) ?_
    refine iushr X0.here hexec rfl (hb hbytes d6) rfl ?_
    refine i2b X0.here hexec rfl (hb hbytes d7) rfl ?_
    exact Steps.refl _)
  have e0 : lo8 (ushr (Int32.ofNat B.slots.size - Int32.ofNat B.slots.size) 31) = 0 := by rw [Int32.sub_self]; decide
  rw [e0] at c3
  exact ⟨s₁, some (.int 0), _, _, _, X0, rfl, rfl, rfl, (fun h => by cases h), ⟨rfl, hh0⟩, fun fs hl => c3.trans (X0.ireturnOut hexec hret rfl (Or.inr (Or.inr (Or.inl rfl))) (hb hbytes d8) hl)⟩
end CodL
/-- the String at a is Latin-1 over a new byte[] (the heap's one new cell): the low bytes of the len chars of A from o on; every cell but a is kept -/
def Got (a : Addr) (D : Cell) (fV fC : Field) (A : Cell) (o len : Nat) (r : Option Value) (s u : State) : Prop := r = none ∧ ∃ D' V : Cell, Blank "java/lang/String" a D' u ∧ Same D D' [fV.slot, fC.slot] ∧ D'.slots[fV.slot]? = some (.ref s.heap.size) ∧ D'.slots[fC.slot]? = some (.int 0) ∧ Arr .byte s.heap.size V u ∧ V.vm = .none ∧ u.vm.findClass "[B" = some V.cls ∧ V.slots.size = len ∧ (∀ j, j < len → V.slots[j]? = some (.int (lo8 (cv A (o + j))))) ∧ (∀ (y : Addr) (c : Cell), y ≠ a → s.heap[y]? = some c → u.heap[y]? = some c) ∧ u.heap.size = s.heap.size + 1
theorem Got.mv {a : Addr} {D A : Cell} {fV fC : Field} {o len : Nat} : ∀ r (U U' V V' : State), U'.heap = U.heap → V.vm.Alike V'.vm → V'.heap = V.heap → Got a D fV fC A o len r U V → Got a D fV fC A o len r U' V' :=
  fun r U U' V V' h1 hal h2 ⟨e0, D', X, a1, a2, a3, a4, a5, a6, a7, a8, a9, a10, a11⟩ => ⟨e0, D', X, a1.mv hal h2, a2, by rw [h1]; exact a3, a4, by rw [h1]; exact a5.mv hal h2, a6, by rw [hal.findClass]; exact a7, a8, a9, by rw [h1, h2]; exact a10, by rw [h1, h2]; exact a11⟩
namespace New4
def yN : MethodName := ⟨"java/lang/String", "<init>", "([CIILjava/lang/Void;)V"⟩
abbrev yB : ByteArray := jdk_42_method_149_code
theorem d0 : decode yB 0 = .ok (.aload_n 0, 1) := by decide +kernel
theorem d1 : decode yB 1 = .ok (.invokespecial 1, 3) := by decide +kernel
theorem d4 : decode yB 4 = .ok (.iload_n 3, 1) := by decide +kernel
theorem d5 : decode yB 5 = .ok (.ifCond (.ne) 22, 3) := by decide +kernel
theorem d27 : decode yB 27 = .ok (.getstatic 38, 3) := by decide +kernel
theorem d30 : decode yB 30 = .ok (.ifCond (.eq) 28, 3) := by decide +kernel
theorem d33 : decode yB 33 = .ok (.aload_n 1, 1) := by decide +kernel
theorem d34 : decode yB 34 = .ok (.iload_n 2, 1) := by decide +kernel
theorem d35 : decode yB 35 = .ok (.iload_n 3, 1) := by decide +kernel
theorem d36 : decode yB 36 = .ok (.invokestatic 177, 3) := by decide +kernel
theorem d39 : decode yB 39 = .ok (.astore 5, 2) := by decide +kernel
theorem d41 : decode yB 41 = .ok (.aload_n 0, 1) := by decide +kernel
theorem d42 : decode yB 42 = .ok (.aload 5, 2) := by decide +kernel
theorem d44 : decode yB 44 = .ok (.iload_n 3, 1) := by decide +kernel
theorem d45 : decode yB 45 = .ok (.invokestatic 47, 3) := by decide +kernel
theorem d48 : decode yB 48 = .ok (.putfield 15, 3) := by decide +kernel
theorem d51 : decode yB 51 = .ok (.aload_n 0, 1) := by decide +kernel
theorem d52 : decode yB 52 = .ok (.aload 5, 2) := by decide +kernel
theorem d54 : decode yB 54 = .ok (.putfield 9, 3) := by decide +kernel
theorem d57 : decode yB 57 = .ok (.return_, 1) := by decide +kernel
def site : List Cond := [.fieldLink "java/lang/String" 38 "java/lang/String" "COMPACT_STRINGS" "Z", Cmp3.tab, CodL.tab, .laysFinal "java/lang/String" "java/lang/String" "value" "[B", .fieldLink "java/lang/String" 9 "java/lang/String" "value" "[B", .laysFinal "java/lang/String" "java/lang/String" "coder" "B", .fieldLink "java/lang/String" 15 "java/lang/String" "coder" "B"] ++ objW "java/lang/String" 1 ++ staticW "java/lang/String" 177 Cmp3.yN ++ staticW "java/lang/String" 47 CodL.yN
def tab : Cond := tabOf yN yB 6 none site
def P (a : Addr) (D : Cell) (fV fC : Field) (b : Addr) (A : Cell) (z : Int32) (o len : Nat) (args : Array Value) (s : State) : Prop := args = #[.ref a, .ref b, .int (Int32.ofNat o), .int (Int32.ofNat len), .null] ∧ Blank "java/lang/String" a D s ∧ Found "java/lang/String" "value" "[B" fV s ∧ Found "java/lang/String" "coder" "B" fC s ∧ Ch b A s ∧ StaticIs s "java/lang/String" "COMPACT_STRINGS" "Z" (.int z) ∧ ¬ z = 0 ∧ 0 < len ∧ o + len ≤ A.slots.size ∧ len ≤ 536870912 ∧ ∀ i, i < len → ¬ 255 < cv A (o + i)
def E (a : Addr) (D : Cell) (fV fC : Field) (A : Cell) (o len : Nat) (r : Option Value) (s u : State) : Prop := Got a D fV fC A o len r s u
/-- len > 0, no char of the range above 255: a Latin-1 String of their low bytes -/
theorem law (l : Launch) (a : Addr) (D : Cell) (fV fC : Field) (b : Addr) (A : Cell) (z : Int32) (o len : Nat) : Law l yN 5 4 2 35 yB 6 none site (P a D fV fC b A z o len) (E a D fV fC A o len) [⟨a, fC.slot⟩, ⟨a, fV.slot⟩] 1 len := by
  refine Law.of_walk (plainFor_of_name (by decide +kernel)) (by decide +kernel) (by decide +kernel) (by decide) (fun _ _ h => by rw [h.1]; rfl) (fun _ U U' hal hh h => ⟨h.1, h.2.1.mv hal hh, h.2.2.1.al hal, h.2.2.2.1.al hal, h.2.2.2.2.1.mv hal hh, h.2.2.2.2.2.1.there hal hh, h.2.2.2.2.2.2⟩) (fun r U U' V V' h1 hal h2 h => Got.mv r U U' V V' h1 hal h2 h) ?_
  intro p e s m args below meth c s₁ X0 hexec hbytes hml hret hlk hnm hown hh0 W hP
  obtain ⟨rfl, hB, f1, f2, hA, s1, hz, l0, l1, l2, hp⟩ := hP
  have a31 := hA.1.2.2.2
  have c1 : Steps p.tables e below (s₁.setTop (entryFrame m #[.ref a, .ref b, .int (Int32.ofNat o), .int (Int32.ofNat len), .null] 6)) (s₁.setTop (mkF m 0 #[.val (.ref a), .val (.ref b), .val (.int (Int32.ofNat o)), .val (.int (Int32.ofNat len)), .val .null, .unset] [])) := entry rfl
  have c2 : Steps p.tables e below (s₁.setTop (entryFrame m #[.ref a, .ref b, .int (Int32.ofNat o), .int (Int32.ofNat len), .null] 6)) (s₁.setTop (mkF m 1 #[.val (.ref a), .val (.ref b), .val (.int (Int32.ofNat o)), .val (.int (Int32.ofNat len)), .val .null, .unset] [.ref a])) := c1.trans (by
    refine XS.aloadN X0.here hexec rfl (hb hbytes d0) rfl rfl ?_
    exact Steps.refl _)
  obtain ⟨T3, X3, q3, st3⟩ := X0.oinit hexec hown (wks W (objW "java/lang/String" 1)) (g := (mkF m 1 #[.val (.ref a), .val (.ref b), .val (.int (Int32.ofNat o)), .val (.int (Int32.ofNat len)), .val .null, .unset] [.ref a])) rfl (by rw [hml]; rfl) (rest := []) rfl (hb hbytes d1) (W := 0) (by show 2 * 0 + 0 ≤ _; decide) (Nat.le_of_ble_eq_true rfl) (Nat.le_of_ble_eq_true rfl)
  have hh3 := q3.trans hh0
  have c4 : Steps p.tables e below (s₁.setTop (entryFrame m #[.ref a, .ref b, .int (Int32.ofNat o), .int (Int32.ofNat len), .null] 6)) (T3.setTop (mkF m 27 #[.val (.ref a), .val (.ref b), .val (.int (Int32.ofNat o)), .val (.int (Int32.ofNat len)), .val .null, .unset] [])) := (c2.trans (st3 _ (Steps.refl _))).trans (by
    refine XS.iloadN X3.here hexec rfl (hb hbytes d4) rfl ?_
    refine XS.ifYes X3.here hexec rfl (pc0 := 5) rfl (hb hbytes d5) rfl (i0_ne_t (nz32 (by omega) l0)) (by decide) rfl ?_
    exact Steps.refl _)
  obtain ⟨T5, X5, q5, st5⟩ := X3.sget hexec hown (wk W (.fieldLink "java/lang/String" 38 "java/lang/String" "COMPACT_STRINGS" "Z")) s1 (fun _ _ h => by rw [hh3]; exact h) (g := (mkF m 27 #[.val (.ref a), .val (.ref b), .val (.int (Int32.ofNat o)), .val (.int (Int32.ofNat len)), .val .null, .unset] [])) rfl (hb hbytes d27)
  have hh5 := q5.trans hh3
  have c6 : Steps p.tables e below (s₁.setTop (entryFrame m #[.ref a, .ref b, .int (Int32.ofNat o), .int (Int32.ofNat len), .null] 6)) (T5.setTop (mkF m 30 #[.val (.ref a), .val (.ref b), .val (.int (Int32.ofNat o)), .val (.int (Int32.ofNat len)), .val .null, .unset] [.int z])) := c4.trans (st5 _ (Steps.refl _))
  have c7 : Steps p.tables e below (s₁.setTop (entryFrame m #[.ref a, .ref b, .int (Int32.ofNat o), .int (Int32.ofNat len), .null] 6)) (T5.setTop (mkF m 36 #[.val (.ref a), .val (.ref b), .val (.int (Int32.ofNat o)), .val (.int (Int32.ofNat len)), .val .null, .unset] [.int (Int32.ofNat len), .int (Int32.ofNat o), .ref b])) := c6.trans (by
    refine XS.ifNo X5.here hexec rfl (hb hbytes d30) rfl (i0_eq_f hz) ?_
    refine XS.aloadN X5.here hexec rfl (hb hbytes d33) rfl rfl ?_
    refine XS.iloadN X5.here hexec rfl (hb hbytes d34) rfl ?_
    refine XS.iloadN X5.here hexec rfl (hb hbytes d35) rfl ?_
    exact Steps.refl _)
  obtain ⟨v8, T8, X8, E8, g8⟩ := X5.callS hexec (Cmp3.law l b A o len) hown (wks W (staticW "java/lang/String" 177 Cmp3.yN)) (wk W Cmp3.tab) (W := 0) (Nat.le_of_ble_eq_true rfl) (Nat.le_of_ble_eq_true rfl) (Nat.le_refl _) (by show 0 + len ≤ len; omega) (g := (mkF m 36 #[.val (.ref a), .val (.ref b), .val (.int (Int32.ofNat o)), .val (.int (Int32.ofNat len)), .val .null, .unset] [.int (Int32.ofNat len), .int (Int32.ofNat o), .ref b])) rfl (by rw [hml]; rfl) c7 (argsL := [.ref b, .int (Int32.ofNat o), .int (Int32.ofNat len)]) (rest := []) rfl rfl (by show 2 * 0 + 0 ≤ _; decide) (hb hbytes d36) (⟨rfl, hA.mv X5.warmed.alike hh5, l1, l2, hp⟩)
  obtain ⟨e8, z8⟩ := E8
  obtain ⟨rfl, N, n1, n2, n3, n4, n5, n6⟩ := NewArr.mv _ T5 s _ _ hh5.symm (Vm.Alike.refl _) rfl e8
  rw [hh5] at z8
  have hB1 := hB.keep X8.warmed.alike (n6 _ _ hB.1)
  have hne : s.heap.size ≠ a := (Nat.ne_of_lt (Array.getElem?_eq_some_iff.mp hB.1).1).symm
  have c9 : Steps p.tables e below (s₁.setTop (entryFrame m #[.ref a, .ref b, .int (Int32.ofNat o), .int (Int32.ofNat len), .null] 6)) (T8.setTop (mkF m 39 #[.val (.ref a), .val (.ref b), .val (.int (Int32.ofNat o)), .val (.int (Int32.ofNat len)), .val .null, .unset] [.ref s.heap.size])) := g8
  have c10 : Steps p.tables e below (s₁.setTop (entryFrame m #[.ref a, .ref b, .int (Int32.ofNat o), .int (Int32.ofNat len), .null] 6)) (T8.setTop (mkF m 45 #[.val (.ref a), .val (.ref b), .val (.int (Int32.ofNat o)), .val (.int (Int32.ofNat len)), .val .null, .val (.ref s.heap.size)] [.int (Int32.ofNat N.slots.size), .ref s.heap.size, .ref a])) := by
    have hc : Steps p.tables e below (s₁.setTop (entryFrame m #[.ref a, .ref b, .int (Int32.ofNat o), .int (Int32.ofNat len), .null] 6)) (T8.setTop (mkF m 45 #[.val (.ref a), .val (.ref b), .val (.int (Int32.ofNat o)), .val (.int (Int32.ofNat len)), .val .null, .val (.ref s.heap.size)] [.int (Int32.ofNat len), .ref s.heap.size, .ref a])) := c9.trans (by
      refine XS.astore X8.here hexec rfl (hb hbytes d39) rfl rfl rfl ?_
      refine XS.aloadN X8.here hexec rfl (hb hbytes d41) rfl rfl ?_
      refine XS.aload X8.here hexec rfl (hb hbytes d42) rfl rfl ?_
      refine XS.iloadN X8.here hexec rfl (hb hbytes d44) rfl ?_
      exact Steps.refl _)
    rw [n4]; exact hc
  obtain ⟨v11, T11, X11, E11, g11⟩ := X8.callS hexec (CodL.law l s.heap.size N) hown (wks W (staticW "java/lang/String" 47 CodL.yN)) (wk W CodL.tab) (W := 1) (Nat.le_of_ble_eq_true rfl) (Nat.le_of_ble_eq_true rfl) (Nat.le_refl _) (by show 0 + len + 0 ≤ len; omega) (g := (mkF m 45 #[.val (.ref a), .val (.ref b), .val (.int (Int32.ofNat o)), .val (.int (Int32.ofNat len)), .val .null, .val (.ref s.heap.size)] [.int (Int32.ofNat N.slots.size), .ref s.heap.size, .ref a])) rfl (by rw [hml]; rfl) c10 (argsL := [.ref s.heap.size, .int (Int32.ofNat N.slots.size)]) (rest := [.ref a]) rfl rfl (by show 2 * 0 + (1 + 0) ≤ _; decide) (hb hbytes d45) (⟨rfl, n1⟩)
  obtain ⟨rfl, q11⟩ := E11
  have hB11 := hB1.mv (X8.warmed.alike.symm.trans X11.warmed.alike) q11
  have c12 : Steps p.tables e below (s₁.setTop (entryFrame m #[.ref a, .ref b, .int (Int32.ofNat o), .int (Int32.ofNat len), .null] 6)) (T11.setTop (mkF m 48 #[.val (.ref a), .val (.ref b), .val (.int (Int32.ofNat o)), .val (.int (Int32.ofNat len)), .val .null, .val (.ref s.heap.size)] [.int 0, .ref a])) := g11
  obtain ⟨T13, X13, p13, bl13, sl13, st13⟩ := X11.finit hexec hown (wk W (.fieldLink "java/lang/String" 15 "java/lang/String" "coder" "B")) (Or.inr ⟨_, (wk W (.laysFinal "java/lang/String" "java/lang/String" "coder" "B"))⟩) (Or.inl ⟨rfl, hnm⟩) f2 (Or.inl rfl) hB11 (t := .byte) (by decide +kernel) rfl (g := (mkF m 48 #[.val (.ref a), .val (.ref b), .val (.int (Int32.ofNat o)), .val (.int (Int32.ofNat len)), .val .null, .val (.ref s.heap.size)] [.int 0, .ref a])) rfl (rest := []) rfl (hb hbytes d48)
  have c14 : Steps p.tables e below (s₁.setTop (entryFrame m #[.ref a, .ref b, .int (Int32.ofNat o), .int (Int32.ofNat len), .null] 6)) (T13.setTop (mkF m 54 #[.val (.ref a), .val (.ref b), .val (.int (Int32.ofNat o)), .val (.int (Int32.ofNat len)), .val .null, .val (.ref s.heap.size)] [.ref s.heap.size, .ref a])) := (c12.trans (st13 _ (Steps.refl _))).trans (by
    refine XS.aloadN X13.here hexec rfl (hb hbytes d51) rfl rfl ?_
    refine XS.aload X13.here hexec rfl (hb hbytes d52) rfl rfl ?_
    exact Steps.refl _)
  obtain ⟨T15, X15, p15, bl15, sl15, st15⟩ := X13.finit hexec hown (wk W (.fieldLink "java/lang/String" 9 "java/lang/String" "value" "[B")) (Or.inr ⟨_, (wk W (.laysFinal "java/lang/String" "java/lang/String" "value" "[B"))⟩) (Or.inl ⟨rfl, hnm⟩) f1 (Or.inl rfl) bl13 (t := (.array .byte)) (by decide +kernel) rfl (g := (mkF m 54 #[.val (.ref a), .val (.ref b), .val (.int (Int32.ofNat o)), .val (.int (Int32.ofNat len)), .val .null, .val (.ref s.heap.size)] [.ref s.heap.size, .ref a])) rfl (rest := []) rfl (hb hbytes d54)
  have c16 : Steps p.tables e below (s₁.setTop (entryFrame m #[.ref a, .ref b, .int (Int32.ofNat o), .int (Int32.ofNat len), .null] 6)) (T15.setTop (mkF m 57 #[.val (.ref a), .val (.ref b), .val (.int (Int32.ofNat o)), .val (.int (Int32.ofNat len)), .val .null, .val (.ref s.heap.size)] [])) := c14.trans (st15 _ (Steps.refl _))
  have ap := apart (Or.inr ⟨_, (wk W (.laysFinal "java/lang/String" "java/lang/String" "value" "[B"))⟩) (Or.inr ⟨_, (wk W (.laysFinal "java/lang/String" "java/lang/String" "coder" "B"))⟩) f1 f2 (t₁ := .array .byte) (t₂ := .byte) (by decide +kernel) (by decide +kernel) (by decide)
  have al := X8.warmed.alike.symm.trans X15.warmed.alike
  have n7 : T11.heap[s.heap.size]? = some N := by rw [q11]; exact n1.1
  exact ⟨T15, none, _, _, _, X15, by simp, rfl, by omega, (fun _ => rfl), ⟨rfl, _, N, bl15, ((Same.refl D _).set _ (by simp)).set _ (by simp), sl15, (Cell.slots_setSlot_ne _ ap).trans sl13, n1.keep al (p15.other hne (p13.other hne n7)), n2, by rw [al.findClass]; exact n3, n4, n5, fun y c h1 h2 => p15.other h1 (p13.other h1 (by rw [q11]; exact n6 y c h2)), by rw [p15.2.2, p13.2.2, q11]; exact z8⟩, fun fs hl => c16.trans (X15.returnOut hexec hret (hb hbytes d57) hl)⟩
end New4
namespace New1
def yN : MethodName := ⟨"java/lang/String", "<init>", "([C)V"⟩
abbrev yB : ByteArray := jdk_42_method_3_code
theorem d0 : decode yB 0 = .ok (.aload_n 0, 1) := by decide +kernel
theorem d1 : decode yB 1 = .ok (.aload_n 1, 1) := by decide +kernel
theorem d2 : decode yB 2 = .ok (.iconst 0, 1) := by decide +kernel
theorem d3 : decode yB 3 = .ok (.aload_n 1, 1) := by decide +kernel
theorem d4 : decode yB 4 = .ok (.arraylength, 1) := by decide +kernel
theorem d5 : decode yB 5 = .ok (.aconst_null, 1) := by decide +kernel
theorem d6 : decode yB 6 = .ok (.invokespecial 27, 3) := by decide +kernel
theorem d9 : decode yB 9 = .ok (.return_, 1) := by decide +kernel
def site : List Cond := [New4.tab] ++ initW "java/lang/String" 27 New4.yN
def tab : Cond := tabOf yN yB 2 none site
def P (a : Addr) (D : Cell) (fV fC : Field) (b : Addr) (A : Cell) (z : Int32) (args : Array Value) (s : State) : Prop := args = #[.ref a, .ref b] ∧ Blank "java/lang/String" a D s ∧ Found "java/lang/String" "value" "[B" fV s ∧ Found "java/lang/String" "coder" "B" fC s ∧ Ch b A s ∧ StaticIs s "java/lang/String" "COMPACT_STRINGS" "Z" (.int z) ∧ ¬ z = 0 ∧ 0 < A.slots.size ∧ A.slots.size ≤ 536870912 ∧ ∀ i, i < A.slots.size → ¬ 255 < cv A i
def E (a : Addr) (D : Cell) (fV fC : Field) (A : Cell) (r : Option Value) (s u : State) : Prop := Got a D fV fC A 0 A.slots.size r s u
/-- new String(chars), not empty, no char above 255: a Latin-1 String of their low bytes -/
theorem law (l : Launch) (a : Addr) (D : Cell) (fV fC : Field) (b : Addr) (A : Cell) (z : Int32) : Law l yN 2 1 3 52 yB 2 none site (P a D fV fC b A z) (E a D fV fC A) [⟨a, fC.slot⟩, ⟨a, fV.slot⟩] 1 A.slots.size := by
  refine Law.of_walk (plainFor_of_name (by decide +kernel)) (by decide +kernel) (by decide +kernel) (by decide) (fun _ _ h => by rw [h.1]; rfl) (fun _ U U' hal hh h => ⟨h.1, h.2.1.mv hal hh, h.2.2.1.al hal, h.2.2.2.1.al hal, h.2.2.2.2.1.mv hal hh, h.2.2.2.2.2.1.there hal hh, h.2.2.2.2.2.2⟩) (fun r U U' V V' h1 hal h2 h => Got.mv r U U' V V' h1 hal h2 h) ?_
  intro p e s m args below meth c s₁ X0 hexec hbytes hml hret hlk hnm hown hh0 W hP
  obtain ⟨rfl, hB, f1, f2, hA, s1, hz, l0, l2, hp⟩ := hP
  have c1 : Steps p.tables e below (s₁.setTop (entryFrame m #[.ref a, .ref b] 2)) (s₁.setTop (mkF m 0 #[.val (.ref a), .val (.ref b)] [])) := entry rfl
  have c2 : Steps p.tables e below (s₁.setTop (entryFrame m #[.ref a, .ref b] 2)) (s₁.setTop (mkF m 6 #[.val (.ref a), .val (.ref b)] [.null, .int (Int32.ofNat A.slots.size), .int 0, .ref b, .ref a])) := c1.trans (by
    refine XS.aloadN X0.here hexec rfl (hb hbytes d0) rfl rfl ?_
    refine XS.aloadN X0.here hexec rfl (hb hbytes d1) rfl rfl ?_
    refine iconstV X0.here hexec rfl 0 (hb hbytes d2) (by decide) ?_
    refine XS.aloadN X0.here hexec rfl (hb hbytes d3) rfl rfl ?_
    refine X0.alen hexec (hA.1.mv X0.warmed.alike hh0) rfl rfl (hb hbytes d4) ?_
    refine XS.aconstNull X0.here hexec rfl (hb hbytes d5) ?_
    exact Steps.refl _)
  obtain ⟨v3, T3, X3, E3, g3⟩ := X0.callN hexec (New4.law l a D fV fC b A z 0 A.slots.size) rfl hown (wks W (initW "java/lang/String" 27 New4.yN)) (W New4.tab (by simp only [site, List.mem_cons, List.mem_append, true_or, or_true])) (W := 0) (Nat.le_of_ble_eq_true rfl) (Nat.le_of_ble_eq_true rfl) (Nat.le_refl _) (by show 0 + A.slots.size ≤ A.slots.size; omega) (g := (mkF m 6 #[.val (.ref a), .val (.ref b)] [.null, .int (Int32.ofNat A.slots.size), .int (Int32.ofNat 0), .ref b, .ref a])) rfl (by rw [hml]; rfl) c2 (argsL := [.ref b, .int (Int32.ofNat 0), .int (Int32.ofNat A.slots.size), .null]) (rest := []) rfl rfl (by show 2 * 0 + 0 ≤ _; decide) (hb hbytes d6) (⟨rfl, hB.mv X0.warmed.alike hh0, f1.al X0.warmed.alike, f2.al X0.warmed.alike, hA.mv X0.warmed.alike hh0, s1.there X0.warmed.alike hh0, hz, l0, by omega, l2, fun i hi => by rw [Nat.zero_add]; exact hp i hi⟩)
  have e0 := Got.mv _ s₁ s _ _ hh0.symm (Vm.Alike.refl _) rfl E3
  obtain rfl := e0.1
  have c4 : Steps p.tables e below (s₁.setTop (entryFrame m #[.ref a, .ref b] 2)) (T3.setTop (mkF m 9 #[.val (.ref a), .val (.ref b)] [])) := g3
  exact ⟨T3, none, _, _, _, X3, by simp, rfl, by omega, (fun _ => rfl), e0, fun fs hl => c4.trans (X3.returnOut hexec hret (hb hbytes d9) hl)⟩
theorem pays {l : Launch} {R : Room} {p : Program} {e : Env} {below : List Frame} {s : State} {sargs : Array Value} {len W : Nat} (a : Addr) (D : Cell) (fV fC : Field) (b : Addr) (A : Cell) (z : Int32) (htab : tab.before sargs s = true) (hfr : 4 ≤ R.frames) (hlo : W + 65 ≤ R.locals) :
    Back l R p e below s sargs yN len W (fun A₁ a₁ => A₁.cells + 1 ≤ R.cells ∧ A₁.slots + A.slots.size ≤ R.slots ∧ P a D fV fC b A z a₁ A₁.U) (fun A₁ _ v₁ B₁ => E a D fV fC A v₁ A₁.U B₁.U ∧ B₁.locs = A₁.locs ++ [⟨a, fC.slot⟩, ⟨a, fV.slot⟩] ∧ B₁.cells = A₁.cells + 1 ∧ B₁.slots = A₁.slots + A.slots.size) :=
  (law l a D fV fC b A z).pays htab hfr (by omega)
end New1
end StrChars
namespace StrChars.Road
open Jvm Sem ClassFile Op Lib Jvm.Stand Jvm.Free Jvm.Free.XT
open Jvm.Lib.Cold (StaticIs)
abbrev ST : String := "java/lang/String"
/-- every table word that New1's law asks, flat -/
abbrev words : List Jvm.Cond := [.code New1.yN New1.yB 2 none, .initialized ST, .methodLink ST 27 New4.yN, .instanceMethod New4.yN,
  .code New4.yN New4.yB 6 none, .fieldLink ST 38 ST "COMPACT_STRINGS" "Z", .laysFinal ST ST "value" "[B", .fieldLink ST 9 ST "value" "[B", .laysFinal ST ST "coder" "B", .fieldLink ST 15 ST "coder" "B",
  .methodLink ST 1 Lib.objectInit, .instanceMethod Lib.objectInit, .code Lib.objectInit ⟨#[0xb1]⟩ 1 none, .methodLink ST 177 Cmp3.yN, .static Cmp3.yN, .methodLink ST 47 CodL.yN, .static CodL.yN,
  .code Cmp3.yN Cmp3.yB 6 (some (.array .byte)), .initialized U16, .arrayClass .byte, .methodLink U16 115 Cmp5.yN, .static Cmp5.yN, .code Cmp5.yN Cmp5.yB 7 (some .int), .code CodL.yN CodL.yB 2 (some .byte)]
theorem tab_of {a : Array Value} {s : State} (h : ∀ w ∈ words, w.before a s = true) : New1.tab.before a s = true := by
  have h5 : Cmp5.tab.before a s = true := unparts (wk h (.code Cmp5.yN Cmp5.yB 7 (some .int))) (wks h (.initialized Cmp5.yN.cls :: Cmp5.site))
  have hc : CodL.tab.before a s = true := unparts (wk h (.code CodL.yN CodL.yB 2 (some .byte))) (wks h (.initialized CodL.yN.cls :: CodL.site))
  have q5 : ∀ w ∈ Cmp5.tab :: words, w.before a s = true := fun w hw => (List.mem_cons.mp hw).elim (fun e => e ▸ h5) (h w)
  have h3 : Cmp3.tab.before a s = true := unparts (wk q5 (.code Cmp3.yN Cmp3.yB 6 (some (.array .byte)))) (wks q5 (.initialized Cmp3.yN.cls :: Cmp3.site))
  have q3 : ∀ w ∈ Cmp3.tab :: CodL.tab :: words, w.before a s = true := fun w hw => (List.mem_cons.mp hw).elim (fun e => e ▸ h3) fun hw => (List.mem_cons.mp hw).elim (fun e => e ▸ hc) (h w)
  have h4 : New4.tab.before a s = true := unparts (wk q3 (.code New4.yN New4.yB 6 none)) (wks q3 (.initialized New4.yN.cls :: New4.site))
  have q4 : ∀ w ∈ New4.tab :: words, w.before a s = true := fun w hw => (List.mem_cons.mp hw).elim (fun e => e ▸ h4) (h w)
  exact unparts (wk q4 (.code New1.yN New1.yB 2 none)) (wks q4 (.initialized New1.yN.cls :: New1.site))
/-- the words ride from the start Z to the walk's own state -/
theorem moved {Z s : State} {a0 args : Array Value} (hZ : Z.Warmed39 s.vm) (hw : ∀ d ∈ words, d.before a0 Z = true) : ∀ d ∈ words, d.before args s = true := fun d hd => by
  have q := hw d hd
  have t : ∀ d ∈ words, d = .arrayClass .byte ∨ (d.onTables && d.keepsFace) = true := by decide +kernel
  rcases t d hd with rfl | t
  · exact RoadKit.mvA hZ q
  · exact RoadKit.mv hZ q t
/-- WHAT COMES BACK, over the tables of the start Z: h the heap at the call, h' behind it -/
def Q (Z : State) (x : Addr) (A : Cell) (h : Heap) (v : Option Value) (h' : Heap) (L : List Loc) : Prop := v = none ∧ (∀ y ∈ L, y.base = x) ∧ RoadKit.Keep h h' [x] ∧ h'.size = h.size + 1 ∧ RoadKit.Exa Z h' x ST ∧ RoadKit.Fld Z h' x ST "value" "[B" (.ref h.size) ∧ RoadKit.Fld Z h' x ST "coder" "B" (.int 0) ∧
  (∃ V : Cell, RoadKit.Arr Z h' h.size V .byte ∧ V.vm = .none ∧ Z.vm.findClass "[B" = some V.cls ∧ V.slots.size = A.slots.size ∧ ∀ j, j < A.slots.size → V.slots[j]? = some (.int (lo8 (cv A j)))) ∧
  ∀ (O n d : String) (w : Value), RoadKit.Fld Z h x O n d w → RoadKit.slotOf Z O n d ≠ RoadKit.slotOf Z ST "value" "[B" → RoadKit.slotOf Z O n d ≠ RoadKit.slotOf Z ST "coder" "B" → RoadKit.Fld Z h' x O n d w
/-- **new String(chars) AT A CALL, IN THE ROAD'S FORM**: for specialBack behind newO: x the fresh String, b the char[] with the cell A -/
theorem back {p : Program} {l : Launch} {e : Env} {R : Room} {s : State} {args : Array Value} {below : List Frame} {len W : Nat} {Z : State} {a0 : Array Value} {h : Heap} (hZ : Z.Warmed39 s.vm) (hw : ∀ d ∈ words, d.before a0 Z = true) {kI : Nat} (wi : (Jvm.Cond.instantiable ST kI).before a0 Z = true)
    {x b : Addr} {A : Cell} {z : Int32} {v0 c0 : Value} (E : RoadKit.Exa Z h x ST) (V : RoadKit.Fld Z h x ST "value" "[B" v0) (C : RoadKit.Fld Z h x ST "coder" "B" c0) (K : RoadKit.Arr Z h b A .char) (hty : Typed .char A) (S : RoadKit.Sta Z h ST "COMPACT_STRINGS" "Z" (.int z)) (hz : ¬ z = 0)
    (l0 : 0 < A.slots.size) (l2 : A.slots.size ≤ 536870912) (hp : ∀ i, i < A.slots.size → ¬ 255 < cv A i) (hfr : 4 ≤ R.frames) (hlo : W + 65 ≤ R.locals) :
    Back l R p e below s args New1.yN len W (fun P a => a = #[.ref x, .ref b] ∧ P.U.heap = h ∧ P.cells + 1 ≤ R.cells ∧ P.slots + A.slots.size ≤ R.slots)
      (fun P _ v B => ∃ L, Q Z x A h v B.U.heap L ∧ B.locs = P.locs ++ L ∧ B.cells = P.cells + 1 ∧ B.slots = P.slots + A.slots.size) := by
  intro m meth c P g ig mk a X hg hsize hdg hW hn hp'
  obtain ⟨rfl, rfl, r1, r2⟩ := hp'
  have al : Z.vm.Alike P.U.vm := hZ.alike.trans X.warmed.alike
  obtain ⟨D, cfV, kV, iV, fV, hD, gV, stV, knV, obV, asV, slV⟩ := id V
  obtain ⟨D', cfC, kC, iC, fC, hD', gC, stC, -, -, asC, slC⟩ := id C
  cases hD.symm.trans hD'
  obtain ⟨D2, kD, e1, e2, e3, e4, e5⟩ := id E
  cases hD.symm.trans e1
  obtain ⟨c2, k2, i1, i2, i3, -⟩ := Cond.instantiable_spec wi
  cases e2.symm.trans i1
  cases e3.symm.trans i2
  obtain ⟨kU, u1, u2⟩ := al.2.2 _ _ e3
  have hB : Blank ST x D P.U := ⟨hD, ⟨knV, fun q hq => by rw [hq] at obV; cases obV⟩, by rw [al.findClass]; exact e2, kU, u1, by rw [u2]; exact i3, by rw [u2]; exact e5 i3⟩
  have F1 : Found ST "value" "[B" fV P.U := ⟨SBG.found_only al ⟨cfV, kV, iV, gV⟩, stV⟩
  have F2 : Found ST "coder" "B" fC P.U := ⟨SBG.found_only al ⟨cfC, kC, iC, gC⟩, stC⟩
  have hA : Ch b A P.U := ⟨⟨K.1, State.isArrayOf_alike al K.2.1, K.2.2, by omega⟩, hty⟩
  have hS : StaticIs P.U ST "COMPACT_STRINGS" "Z" (.int z) := by
    obtain ⟨cfS, iS, kS, fS, st, cS, t1, t2, t3, t4, t5, t6, t7⟩ := S
    exact StaticIs.there (s := { Z with heap := P.U.heap }) ⟨cfS, iS, kS, fS, st, cS, t1, t2, t3, t4, t5, (fun q => by rw [q] at t6; cases t6), t7⟩ al rfl
  obtain ⟨v, B, X', ⟨⟨hv, E', V', q1, q2, q3, q4, q5, q6, q7, q8, q9, q10, q11⟩, hl, hc, hs⟩, st⟩ := New1.pays x D fV fC b A z (tab_of (moved hZ hw)) hfr hlo m meth c P g ig mk _ X hg hsize hdg hW hn ⟨r1, r2, rfl, hB, F1, F2, hA, hS, hz, l0, l2, hp⟩
  have al' : Z.vm.Alike B.U.vm := hZ.alike.trans X'.warmed.alike
  have hsz : E'.slots.size = D.slots.size := by
    obtain ⟨-, -, -, kB, w1, w2, w3⟩ := q1
    obtain ⟨kB', y1, y2⟩ := al'.2.2 _ _ e3
    rw [q2.2.1] at w1
    cases w1.symm.trans y1
    rw [w3, e5 i3, y2]
  refine ⟨v, B, X', ⟨_, ⟨hv, ?_, ⟨by omega, fun y cy hy hn' => q10 y cy (by simpa using hn') hy, fun y cy hy => ?_⟩, q11, ⟨E', _, q1.1, by rw [q2.2.1]; exact e2, by rw [q2.2.1]; exact e3, by rw [q2.1]; exact obV, fun _ => by rw [hsz]; exact e5 i3⟩,
    ⟨E', cfV, kV, iV, fV, q1.1, gV, stV, by rw [q2.1]; exact knV, by rw [q2.1]; exact obV, by rw [q2.2.1]; exact asV, q3⟩, ⟨E', cfC, kC, iC, fC, q1.1, gC, stC, by rw [q2.1]; exact knV, by rw [q2.1]; exact obV, by rw [q2.2.1]; exact asC, q4⟩,
    ⟨V', ⟨q5.1, State.isArrayOf_alike al'.symm q5.2.1, q5.2.2.1⟩, q6, by rw [← al'.findClass]; exact q7, q8, fun j hj => by have := q9 j hj; rwa [Nat.zero_add] at this⟩, fun O n d w F n1 n2 => ?_⟩, hl, hc, hs⟩, st⟩
  · intro y hy
    simp only [List.mem_cons, List.not_mem_nil, or_false] at hy
    rcases hy with rfl | rfl <;> rfl
  · by_cases q : y = x
    · subst q
      cases hD.symm.trans hy
      exact ⟨E', q1.1, q2.2.1, q2.1, hsz⟩
    · exact ⟨cy, q10 y cy q hy, rfl, rfl, rfl⟩
  · obtain ⟨D3, cf, k, i, f, g1, g2, g3, g4, g5, g6, g7⟩ := F
    cases hD.symm.trans g1
    simp only [RoadKit.slotOf, g2, gV, gC, Option.map_some, Option.getD_some] at n1 n2
    exact ⟨E', cf, k, i, f, q1.1, g2, g3, by rw [q2.1]; exact g4, by rw [q2.1]; exact g5, by rw [q2.2.1]; exact g6, by rw [q2.2.2 f.slot (by simp [n1, n2])]; exact g7⟩
end StrChars.Road
namespace StrChars.Road
open Jvm Sem ClassFile Op Lib Jvm.Stand Jvm.Free Jvm.Free.XT
/-- WHAT COMES BACK, the byte[] as a list of values -/
def QA (Z : State) (x : Addr) (zn : Int32) (cs : List Int32) (h : Heap) (v : Option Value) (h' : Heap) (L : List Loc) : Prop := v = none ∧ (∀ y ∈ L, y.base = x) ∧ RoadKit.Keep h h' [x] ∧ h'.size = h.size + 1 ∧ RoadKit.Exa Z h' x ST ∧ RoadKit.Fld Z h' x ST "value" "[B" (.ref h.size) ∧ RoadKit.Fld Z h' x ST "coder" "B" (.int 0) ∧
  (∃ kb, Z.vm.findClass "[B" = some kb ∧ RoadKit.Arv Z h' h.size kb .byte zn (cs.map fun c => .int (lo8 c)) (.int 0)) ∧
  ∀ (O n d : String) (w : Value), RoadKit.Fld Z h x O n d w → RoadKit.slotOf Z O n d ≠ RoadKit.slotOf Z ST "value" "[B" → RoadKit.slotOf Z O n d ≠ RoadKit.slotOf Z ST "coder" "B" → RoadKit.Fld Z h' x O n d w
/-- **new String(chars) AT A CALL, THE ARRAYS AS LISTS**: the char[] at b holds cs, not empty, no char above 255 -/
theorem backArv {p : Program} {l : Launch} {e : Env} {R : Room} {s : State} {args : Array Value} {below : List Frame} {len W : Nat} {Z : State} {a0 : Array Value} {h : Heap} (hZ : Z.Warmed39 s.vm) (hw : ∀ d ∈ words, d.before a0 Z = true) {kI : Nat} (wi : (Jvm.Cond.instantiable ST kI).before a0 Z = true)
    {x b : Addr} {k : ClassId} {zn z : Int32} {cs : List Int32} {dv v0 c0 : Value} (E : RoadKit.Exa Z h x ST) (V : RoadKit.Fld Z h x ST "value" "[B" v0) (C : RoadKit.Fld Z h x ST "coder" "B" c0) (K : RoadKit.Arv Z h b k .char zn (cs.map Value.int) dv) (S : RoadKit.Sta Z h ST "COMPACT_STRINGS" "Z" (.int z)) (hz : ¬ z = 0)
    (hlen : zn.toNatClampNeg = cs.length) (h0 : 0 < cs.length) (hbig : cs.length ≤ 536870912) (hall : ∀ c ∈ cs, ¬ 255 < c) (hfr : 4 ≤ R.frames) (hlo : W + 65 ≤ R.locals) :
    Back l R p e below s args New1.yN len W (fun P a => a = #[.ref x, .ref b] ∧ P.U.heap = h ∧ P.cells + 1 ≤ R.cells ∧ P.slots + cs.length ≤ R.slots)
      (fun P _ v B => ∃ L, QA Z x zn cs h v B.U.heap L ∧ B.locs = P.locs ++ L ∧ B.cells = P.cells + 1 ∧ B.slots = P.slots + cs.length) := by
  obtain ⟨A, K1, K2, K3, K4, K5, K6⟩ := K
  have e : A.slots.size = cs.length := K3.trans hlen
  have hat : ∀ (i : Nat) (hi : i < cs.length), A.slots[i]? = some (.int cs[i]) := fun i hi => by rw [K5 i (by omega)]; simp [List.getD_eq_getElem?_getD, hi]
  have hcv : ∀ (i : Nat) (hi : i < cs.length), cv A i = cs[i] := fun i hi => by unfold cv; rw [hat i hi]
  have hty : Typed .char A := fun i v hv => by
    have hi : i < A.slots.size := (Array.getElem?_eq_some_iff.mp hv).1
    have q := K5 i hi
    rw [hv] at q
    rw [Option.some.inj q]
    exact K6 i hi
  refine Back.mono (back hZ hw wi E V C K1 hty S hz (by omega) (by omega) (fun i hi => by rw [hcv i (by omega)]; exact hall _ (List.getElem_mem _)) hfr hlo) (fun P a hp => ⟨hp.1, hp.2.1, hp.2.2.1, by rw [e]; exact hp.2.2.2⟩) (fun P a v B hp hq => ?_)
  obtain ⟨L, ⟨q1, q2, q3, q4, q5, q6, q7, ⟨V', v1, v2, v3, v4, v5⟩, q9⟩, hl, hc, hs⟩ := hq
  refine ⟨L, ⟨q1, q2, q3, q4, q5, q6, q7, ⟨V'.cls, v3, V', v1, rfl, by rw [v4, e, hlen], K4, fun i hi => ?_, fun i hi => ?_⟩, q9⟩, hl, hc, by rw [hs, e]⟩
  · have hi' : i < cs.length := by omega
    rw [v5 i (by omega), hcv i hi']; simp [List.getD_eq_getElem?_getD, hi']
  · have hi' : i < cs.length := by omega
    simp only [List.getD_eq_getElem?_getD, List.getElem?_map, List.getElem?_eq_getElem hi', Option.map_some, Option.getD_some]
    exact fits_lo8 _
end StrChars.Road
end Jvm.Pilot.@@N@@
namespace Jvm.Pilot.@@N@@
open Jvm Jvm.ClassFile Sem Op Lib Jvm.Free Jvm.Stand Jvm.LawKit Jvm.RoadKit Bundle Jvm.Pilot.@@N@@.Jvm.D Jvm.Wk
theorem wd0 {a0 : Array Value} {Z : State} (hw : ∀ d ∈ tables_1, d.before a0 Z = true) : (Jvm.Cond.methodLink "com/example/discern/discern/UriReferenceWithoutFragmentPinLaw" (7 : Nat) ({ cls := "com/example/discern/discern/UriReferenceWithoutFragmentPinLaw", name := "opt", desc := "(ZI)Ljava/util/Optional;" } : Jvm.MethodName)).before a0 Z = true := hw _ (List.mem_of_getElem? (i := 0) rfl)
theorem wd1 {a0 : Array Value} {Z : State} (hw : ∀ d ∈ tables_1, d.before a0 Z = true) : (Jvm.Cond.static ({ cls := "com/example/discern/discern/UriReferenceWithoutFragmentPinLaw", name := "opt", desc := "(ZI)Ljava/util/Optional;" } : Jvm.MethodName)).before a0 Z = true := hw _ (List.mem_of_getElem? (i := 1) rfl)
theorem wd2 {a0 : Array Value} {Z : State} (hw : ∀ d ∈ tables_1, d.before a0 Z = true) : (Jvm.Cond.initialized "com/example/discern/discern/UriReferenceWithoutFragmentPinLaw").before a0 Z = true := hw _ (List.mem_of_getElem? (i := 2) rfl)
theorem wd3 {a0 : Array Value} {Z : State} (hw : ∀ d ∈ tables_1, d.before a0 Z = true) : (Jvm.Cond.code ({ cls := "com/example/discern/discern/UriReferenceWithoutFragmentPinLaw", name := "opt", desc := "(ZI)Ljava/util/Optional;" } : Jvm.MethodName) method_3_code (2 : Nat) (Option.some (Jvm.ClassFile.FieldType.object "java/util/Optional"))).before a0 Z = true := hw _ (List.mem_of_getElem? (i := 3) rfl)
theorem wd4 {a0 : Array Value} {Z : State} (hw : ∀ d ∈ tables_1, d.before a0 Z = true) : (Jvm.Cond.methodLink "com/example/discern/discern/UriReferenceWithoutFragmentPinLaw" (60 : Nat) ({ cls := "java/util/Optional", name := "empty", desc := "()Ljava/util/Optional;" } : Jvm.MethodName)).before a0 Z = true := hw _ (List.mem_of_getElem? (i := 4) rfl)
theorem wd5 {a0 : Array Value} {Z : State} (hw : ∀ d ∈ tables_1, d.before a0 Z = true) : (Jvm.Cond.static ({ cls := "java/util/Optional", name := "empty", desc := "()Ljava/util/Optional;" } : Jvm.MethodName)).before a0 Z = true := hw _ (List.mem_of_getElem? (i := 5) rfl)
theorem wd6 {a0 : Array Value} {Z : State} (hw : ∀ d ∈ tables_1, d.before a0 Z = true) : (Jvm.Cond.initialized "java/util/Optional").before a0 Z = true := hw _ (List.mem_of_getElem? (i := 6) rfl)
theorem wd7 {a0 : Array Value} {Z : State} (hw : ∀ d ∈ tables_1, d.before a0 Z = true) : (Jvm.Cond.code ({ cls := "java/util/Optional", name := "empty", desc := "()Ljava/util/Optional;" } : Jvm.MethodName) jdk_32_method_1_code (1 : Nat) (Option.some (Jvm.ClassFile.FieldType.object "java/util/Optional"))).before a0 Z = true := hw _ (List.mem_of_getElem? (i := 7) rfl)
theorem wd8 {a0 : Array Value} {Z : State} (hw : ∀ d ∈ tables_1, d.before a0 Z = true) : (Jvm.Cond.fieldLink "java/util/Optional" (1 : Nat) "java/util/Optional" "EMPTY" "Ljava/util/Optional;").before a0 Z = true := hw _ (List.mem_of_getElem? (i := 8) rfl)
theorem wd9 {a0 : Array Value} {Z : State} (hw : ∀ d ∈ tables_1, d.before a0 Z = true) : (Jvm.Cond.methodLink "com/example/discern/discern/UriReferenceWithoutFragmentPinLaw" (13 : Nat) ({ cls := "com/example/discern/discern/UriReferenceWithoutFragmentPinLaw", name := "str", desc := "(I)Ljava/lang/String;" } : Jvm.MethodName)).before a0 Z = true := hw _ (List.mem_of_getElem? (i := 9) rfl)
theorem wd10 {a0 : Array Value} {Z : State} (hw : ∀ d ∈ tables_1, d.before a0 Z = true) : (Jvm.Cond.static ({ cls := "com/example/discern/discern/UriReferenceWithoutFragmentPinLaw", name := "str", desc := "(I)Ljava/lang/String;" } : Jvm.MethodName)).before a0 Z = true := hw _ (List.mem_of_getElem? (i := 10) rfl)
theorem wd11 {a0 : Array Value} {Z : State} (hw : ∀ d ∈ tables_1, d.before a0 Z = true) : (Jvm.Cond.code ({ cls := "com/example/discern/discern/UriReferenceWithoutFragmentPinLaw", name := "str", desc := "(I)Ljava/lang/String;" } : Jvm.MethodName) method_4_code (5 : Nat) (Option.some (Jvm.ClassFile.FieldType.object "java/lang/String"))).before a0 Z = true := hw _ (List.mem_of_getElem? (i := 11) rfl)
theorem wd12 {a0 : Array Value} {Z : State} (hw : ∀ d ∈ tables_1, d.before a0 Z = true) : (Jvm.Cond.classLink "com/example/discern/discern/UriReferenceWithoutFragmentPinLaw" (44 : Nat) "java/lang/String").before a0 Z = true := hw _ (List.mem_of_getElem? (i := 12) rfl)
theorem wd13 {a0 : Array Value} {Z : State} (hw : ∀ d ∈ tables_1, d.before a0 Z = true) : (Jvm.Cond.instantiable "java/lang/String" (4 : Nat)).before a0 Z = true := hw _ (List.mem_of_getElem? (i := 13) rfl)
theorem wd14 {a0 : Array Value} {Z : State} (hw : ∀ d ∈ tables_1, d.before a0 Z = true) : (Jvm.Cond.initialized "java/lang/String").before a0 Z = true := hw _ (List.mem_of_getElem? (i := 14) rfl)
theorem wd15 {a0 : Array Value} {Z : State} (hw : ∀ d ∈ tables_1, d.before a0 Z = true) : (Jvm.Cond.arrayClass Jvm.ClassFile.FieldType.char).before a0 Z = true := hw _ (List.mem_of_getElem? (i := 15) rfl)
theorem wd16 {a0 : Array Value} {Z : State} (hw : ∀ d ∈ tables_1, d.before a0 Z = true) : (Jvm.Cond.methodLink "com/example/discern/discern/UriReferenceWithoutFragmentPinLaw" (63 : Nat) ({ cls := "java/lang/String", name := "<init>", desc := "([C)V" } : Jvm.MethodName)).before a0 Z = true := hw _ (List.mem_of_getElem? (i := 16) rfl)
theorem wd17 {a0 : Array Value} {Z : State} (hw : ∀ d ∈ tables_1, d.before a0 Z = true) : (Jvm.Cond.instanceMethod ({ cls := "java/lang/String", name := "<init>", desc := "([C)V" } : Jvm.MethodName)).before a0 Z = true := hw _ (List.mem_of_getElem? (i := 17) rfl)
theorem wd18 {a0 : Array Value} {Z : State} (hw : ∀ d ∈ tables_1, d.before a0 Z = true) : (Jvm.Cond.code ({ cls := "java/lang/String", name := "<init>", desc := "([C)V" } : Jvm.MethodName) jdk_42_method_3_code (2 : Nat) (Option.none : Option Jvm.ClassFile.FieldType)).before a0 Z = true := hw _ (List.mem_of_getElem? (i := 18) rfl)
theorem wd19 {a0 : Array Value} {Z : State} (hw : ∀ d ∈ tables_1, d.before a0 Z = true) : (Jvm.Cond.methodLink "java/lang/String" (27 : Nat) ({ cls := "java/lang/String", name := "<init>", desc := "([CIILjava/lang/Void;)V" } : Jvm.MethodName)).before a0 Z = true := hw _ (List.mem_of_getElem? (i := 19) rfl)
theorem wd20 {a0 : Array Value} {Z : State} (hw : ∀ d ∈ tables_1, d.before a0 Z = true) : (Jvm.Cond.instanceMethod ({ cls := "java/lang/String", name := "<init>", desc := "([CIILjava/lang/Void;)V" } : Jvm.MethodName)).before a0 Z = true := hw _ (List.mem_of_getElem? (i := 20) rfl)
theorem wd22 {a0 : Array Value} {Z : State} (hw : ∀ d ∈ tables_1, d.before a0 Z = true) : (Jvm.Cond.code ({ cls := "java/lang/String", name := "<init>", desc := "([CIILjava/lang/Void;)V" } : Jvm.MethodName) jdk_42_method_149_code (6 : Nat) (Option.none : Option Jvm.ClassFile.FieldType)).before a0 Z = true := hw _ (List.mem_of_getElem? (i := 22) rfl)
theorem wd23 {a0 : Array Value} {Z : State} (hw : ∀ d ∈ tables_1, d.before a0 Z = true) : (Jvm.Cond.methodLink "java/lang/String" (1 : Nat) ({ cls := "java/lang/Object", name := "<init>", desc := "()V" } : Jvm.MethodName)).before a0 Z = true := hw _ (List.mem_of_getElem? (i := 23) rfl)
theorem wd24 {a0 : Array Value} {Z : State} (hw : ∀ d ∈ tables_1, d.before a0 Z = true) : (Jvm.Cond.instanceMethod ({ cls := "java/lang/Object", name := "<init>", desc := "()V" } : Jvm.MethodName)).before a0 Z = true := hw _ (List.mem_of_getElem? (i := 24) rfl)
theorem wd25 {a0 : Array Value} {Z : State} (hw : ∀ d ∈ tables_1, d.before a0 Z = true) : (Jvm.Cond.code ({ cls := "java/lang/Object", name := "<init>", desc := "()V" } : Jvm.MethodName) object_method_1_code (1 : Nat) (Option.none : Option Jvm.ClassFile.FieldType)).before a0 Z = true := hw _ (List.mem_of_getElem? (i := 25) rfl)
theorem wd26 {a0 : Array Value} {Z : State} (hw : ∀ d ∈ tables_1, d.before a0 Z = true) : (Jvm.Cond.stringLink "java/lang/String" (7 : Nat) "").before a0 Z = true := hw _ (List.mem_of_getElem? (i := 26) rfl)
theorem wd27 {a0 : Array Value} {Z : State} (hw : ∀ d ∈ tables_1, d.before a0 Z = true) : (Jvm.Cond.arrayClass Jvm.ClassFile.FieldType.byte).before a0 Z = true := hw _ (List.mem_of_getElem? (i := 27) rfl)
theorem wd28 {a0 : Array Value} {Z : State} (hw : ∀ d ∈ tables_1, d.before a0 Z = true) : (Jvm.Cond.laysFinal "java/lang/String" "java/lang/String" "value" "[B").before a0 Z = true := hw _ (List.mem_of_getElem? (i := 28) rfl)
theorem wd29 {a0 : Array Value} {Z : State} (hw : ∀ d ∈ tables_1, d.before a0 Z = true) : (Jvm.Cond.laysFinal "java/lang/String" "java/lang/String" "coder" "B").before a0 Z = true := hw _ (List.mem_of_getElem? (i := 29) rfl)
theorem wd32 {a0 : Array Value} {Z : State} (hw : ∀ d ∈ tables_1, d.before a0 Z = true) : (Jvm.Cond.fieldLink "java/lang/String" (9 : Nat) "java/lang/String" "value" "[B").before a0 Z = true := hw _ (List.mem_of_getElem? (i := 32) rfl)
theorem wd33 {a0 : Array Value} {Z : State} (hw : ∀ d ∈ tables_1, d.before a0 Z = true) : (Jvm.Cond.fieldLink "java/lang/String" (15 : Nat) "java/lang/String" "coder" "B").before a0 Z = true := hw _ (List.mem_of_getElem? (i := 33) rfl)
theorem wd34 {a0 : Array Value} {Z : State} (hw : ∀ d ∈ tables_1, d.before a0 Z = true) : (Jvm.Cond.classLink "com/example/discern/discern/UriReferenceWithoutFragmentPinLaw" (17 : Nat) "com/example/discern/discern/UriReference").before a0 Z = true := hw _ (List.mem_of_getElem? (i := 34) rfl)
theorem wd35 {a0 : Array Value} {Z : State} (hw : ∀ d ∈ tables_1, d.before a0 Z = true) : (Jvm.Cond.instantiable "com/example/discern/discern/UriReference" (5 : Nat)).before a0 Z = true := hw _ (List.mem_of_getElem? (i := 35) rfl)
theorem wd36 {a0 : Array Value} {Z : State} (hw : ∀ d ∈ tables_1, d.before a0 Z = true) : (Jvm.Cond.initialized "com/example/discern/discern/UriReference").before a0 Z = true := hw _ (List.mem_of_getElem? (i := 36) rfl)
theorem wd37 {a0 : Array Value} {Z : State} (hw : ∀ d ∈ tables_1, d.before a0 Z = true) : (Jvm.Cond.methodLink "com/example/discern/discern/UriReferenceWithoutFragmentPinLaw" (19 : Nat) ({ cls := "com/example/discern/discern/UriReference", name := "<init>", desc := "(Ljava/util/Optional;Ljava/util/Optional;Ljava/lang/String;Ljava/util/Optional;Ljava/util/Optional;)V" } : Jvm.MethodName)).before a0 Z = true := hw _ (List.mem_of_getElem? (i := 37) rfl)
theorem wd38 {a0 : Array Value} {Z : State} (hw : ∀ d ∈ tables_1, d.before a0 Z = true) : (Jvm.Cond.instanceMethod ({ cls := "com/example/discern/discern/UriReference", name := "<init>", desc := "(Ljava/util/Optional;Ljava/util/Optional;Ljava/lang/String;Ljava/util/Optional;Ljava/util/Optional;)V" } : Jvm.MethodName)).before a0 Z = true := hw _ (List.mem_of_getElem? (i := 38) rfl)
theorem wd39 {a0 : Array Value} {Z : State} (hw : ∀ d ∈ tables_1, d.before a0 Z = true) : (Jvm.Cond.code ({ cls := "com/example/discern/discern/UriReference", name := "<init>", desc := "(Ljava/util/Optional;Ljava/util/Optional;Ljava/lang/String;Ljava/util/Optional;Ljava/util/Optional;)V" } : Jvm.MethodName) prog_53_method_1_code (6 : Nat) (Option.none : Option Jvm.ClassFile.FieldType)).before a0 Z = true := hw _ (List.mem_of_getElem? (i := 39) rfl)
theorem wd40 {a0 : Array Value} {Z : State} (hw : ∀ d ∈ tables_1, d.before a0 Z = true) : (Jvm.Cond.methodLink "com/example/discern/discern/UriReference" (1 : Nat) ({ cls := "java/lang/Record", name := "<init>", desc := "()V" } : Jvm.MethodName)).before a0 Z = true := hw _ (List.mem_of_getElem? (i := 40) rfl)
theorem wd41 {a0 : Array Value} {Z : State} (hw : ∀ d ∈ tables_1, d.before a0 Z = true) : (Jvm.Cond.instanceMethod ({ cls := "java/lang/Record", name := "<init>", desc := "()V" } : Jvm.MethodName)).before a0 Z = true := hw _ (List.mem_of_getElem? (i := 41) rfl)
theorem wd43 {a0 : Array Value} {Z : State} (hw : ∀ d ∈ tables_1, d.before a0 Z = true) : (Jvm.Cond.initialized "java/lang/Record").before a0 Z = true := hw _ (List.mem_of_getElem? (i := 43) rfl)
theorem wd44 {a0 : Array Value} {Z : State} (hw : ∀ d ∈ tables_1, d.before a0 Z = true) : (Jvm.Cond.code ({ cls := "java/lang/Record", name := "<init>", desc := "()V" } : Jvm.MethodName) jdk_30_method_1_code (1 : Nat) (Option.none : Option Jvm.ClassFile.FieldType)).before a0 Z = true := hw _ (List.mem_of_getElem? (i := 44) rfl)
theorem wd45 {a0 : Array Value} {Z : State} (hw : ∀ d ∈ tables_1, d.before a0 Z = true) : (Jvm.Cond.methodLink "java/lang/Record" (1 : Nat) ({ cls := "java/lang/Object", name := "<init>", desc := "()V" } : Jvm.MethodName)).before a0 Z = true := hw _ (List.mem_of_getElem? (i := 45) rfl)
theorem wd46 {a0 : Array Value} {Z : State} (hw : ∀ d ∈ tables_1, d.before a0 Z = true) : (Jvm.Cond.fieldLink "com/example/discern/discern/UriReference" (7 : Nat) "com/example/discern/discern/UriReference" "scheme" "Ljava/util/Optional;").before a0 Z = true := hw _ (List.mem_of_getElem? (i := 46) rfl)
theorem wd47 {a0 : Array Value} {Z : State} (hw : ∀ d ∈ tables_1, d.before a0 Z = true) : (Jvm.Cond.laysFinal "com/example/discern/discern/UriReference" "com/example/discern/discern/UriReference" "scheme" "Ljava/util/Optional;").before a0 Z = true := hw _ (List.mem_of_getElem? (i := 47) rfl)
theorem wd48 {a0 : Array Value} {Z : State} (hw : ∀ d ∈ tables_1, d.before a0 Z = true) : (Jvm.Cond.fieldLink "com/example/discern/discern/UriReference" (13 : Nat) "com/example/discern/discern/UriReference" "authority" "Ljava/util/Optional;").before a0 Z = true := hw _ (List.mem_of_getElem? (i := 48) rfl)
theorem wd49 {a0 : Array Value} {Z : State} (hw : ∀ d ∈ tables_1, d.before a0 Z = true) : (Jvm.Cond.laysFinal "com/example/discern/discern/UriReference" "com/example/discern/discern/UriReference" "authority" "Ljava/util/Optional;").before a0 Z = true := hw _ (List.mem_of_getElem? (i := 49) rfl)
theorem wd50 {a0 : Array Value} {Z : State} (hw : ∀ d ∈ tables_1, d.before a0 Z = true) : (Jvm.Cond.fieldLink "com/example/discern/discern/UriReference" (16 : Nat) "com/example/discern/discern/UriReference" "path" "Ljava/lang/String;").before a0 Z = true := hw _ (List.mem_of_getElem? (i := 50) rfl)
theorem wd51 {a0 : Array Value} {Z : State} (hw : ∀ d ∈ tables_1, d.before a0 Z = true) : (Jvm.Cond.laysFinal "com/example/discern/discern/UriReference" "com/example/discern/discern/UriReference" "path" "Ljava/lang/String;").before a0 Z = true := hw _ (List.mem_of_getElem? (i := 51) rfl)
theorem wd52 {a0 : Array Value} {Z : State} (hw : ∀ d ∈ tables_1, d.before a0 Z = true) : (Jvm.Cond.fieldLink "com/example/discern/discern/UriReference" (20 : Nat) "com/example/discern/discern/UriReference" "query" "Ljava/util/Optional;").before a0 Z = true := hw _ (List.mem_of_getElem? (i := 52) rfl)
theorem wd53 {a0 : Array Value} {Z : State} (hw : ∀ d ∈ tables_1, d.before a0 Z = true) : (Jvm.Cond.laysFinal "com/example/discern/discern/UriReference" "com/example/discern/discern/UriReference" "query" "Ljava/util/Optional;").before a0 Z = true := hw _ (List.mem_of_getElem? (i := 53) rfl)
theorem wd54 {a0 : Array Value} {Z : State} (hw : ∀ d ∈ tables_1, d.before a0 Z = true) : (Jvm.Cond.fieldLink "com/example/discern/discern/UriReference" (23 : Nat) "com/example/discern/discern/UriReference" "fragment" "Ljava/util/Optional;").before a0 Z = true := hw _ (List.mem_of_getElem? (i := 54) rfl)
theorem wd55 {a0 : Array Value} {Z : State} (hw : ∀ d ∈ tables_1, d.before a0 Z = true) : (Jvm.Cond.laysFinal "com/example/discern/discern/UriReference" "com/example/discern/discern/UriReference" "fragment" "Ljava/util/Optional;").before a0 Z = true := hw _ (List.mem_of_getElem? (i := 55) rfl)
theorem wd56 {a0 : Array Value} {Z : State} (hw : ∀ d ∈ tables_1, d.before a0 Z = true) : (Jvm.Cond.methodLink "com/example/discern/discern/UriReferenceWithoutFragmentPinLaw" (22 : Nat) ({ cls := "com/example/discern/discern/UriReference", name := "withoutFragment", desc := "()Lcom/example/discern/discern/UriReference;" } : Jvm.MethodName)).before a0 Z = true := hw _ (List.mem_of_getElem? (i := 56) rfl)
theorem wd57 {a0 : Array Value} {Z : State} (hw : ∀ d ∈ tables_1, d.before a0 Z = true) : (Jvm.Cond.declares ({ cls := "com/example/discern/discern/UriReference", name := "withoutFragment", desc := "()Lcom/example/discern/discern/UriReference;" } : Jvm.MethodName)).before a0 Z = true := hw _ (List.mem_of_getElem? (i := 57) rfl)
theorem wd58 {a0 : Array Value} {Z : State} (hw : ∀ d ∈ tables_1, d.before a0 Z = true) : (Jvm.Cond.instanceMethod ({ cls := "com/example/discern/discern/UriReference", name := "withoutFragment", desc := "()Lcom/example/discern/discern/UriReference;" } : Jvm.MethodName)).before a0 Z = true := hw _ (List.mem_of_getElem? (i := 58) rfl)
theorem wd59 {a0 : Array Value} {Z : State} (hw : ∀ d ∈ tables_1, d.before a0 Z = true) : (Jvm.Cond.selects "com/example/discern/discern/UriReference" ({ cls := "com/example/discern/discern/UriReference", name := "withoutFragment", desc := "()Lcom/example/discern/discern/UriReference;" } : Jvm.MethodName) ({ cls := "com/example/discern/discern/UriReference", name := "withoutFragment", desc := "()Lcom/example/discern/discern/UriReference;" } : Jvm.MethodName)).before a0 Z = true := hw _ (List.mem_of_getElem? (i := 59) rfl)
theorem wd60 {a0 : Array Value} {Z : State} (hw : ∀ d ∈ tables_1, d.before a0 Z = true) : (Jvm.Cond.code ({ cls := "com/example/discern/discern/UriReference", name := "withoutFragment", desc := "()Lcom/example/discern/discern/UriReference;" } : Jvm.MethodName) prog_53_method_5_code (1 : Nat) (Option.some (Jvm.ClassFile.FieldType.object "com/example/discern/discern/UriReference"))).before a0 Z = true := hw _ (List.mem_of_getElem? (i := 60) rfl)
theorem wd61 {a0 : Array Value} {Z : State} (hw : ∀ d ∈ tables_1, d.before a0 Z = true) : (Jvm.Cond.classLink "com/example/discern/discern/UriReference" (8 : Nat) "com/example/discern/discern/UriReference").before a0 Z = true := hw _ (List.mem_of_getElem? (i := 61) rfl)
theorem wd62 {a0 : Array Value} {Z : State} (hw : ∀ d ∈ tables_1, d.before a0 Z = true) : (Jvm.Cond.methodLink "com/example/discern/discern/UriReference" (135 : Nat) ({ cls := "java/util/Optional", name := "empty", desc := "()Ljava/util/Optional;" } : Jvm.MethodName)).before a0 Z = true := hw _ (List.mem_of_getElem? (i := 62) rfl)
theorem wd63 {a0 : Array Value} {Z : State} (hw : ∀ d ∈ tables_1, d.before a0 Z = true) : (Jvm.Cond.methodLink "com/example/discern/discern/UriReference" (98 : Nat) ({ cls := "com/example/discern/discern/UriReference", name := "<init>", desc := "(Ljava/util/Optional;Ljava/util/Optional;Ljava/lang/String;Ljava/util/Optional;Ljava/util/Optional;)V" } : Jvm.MethodName)).before a0 Z = true := hw _ (List.mem_of_getElem? (i := 63) rfl)
theorem wd64 {a0 : Array Value} {Z : State} (hw : ∀ d ∈ tables_1, d.before a0 Z = true) : (Jvm.Cond.methodLink "com/example/discern/discern/UriReferenceWithoutFragmentPinLaw" (26 : Nat) ({ cls := "com/example/discern/discern/UriReference", name := "scheme", desc := "()Ljava/util/Optional;" } : Jvm.MethodName)).before a0 Z = true := hw _ (List.mem_of_getElem? (i := 64) rfl)
theorem wd65 {a0 : Array Value} {Z : State} (hw : ∀ d ∈ tables_1, d.before a0 Z = true) : (Jvm.Cond.declares ({ cls := "com/example/discern/discern/UriReference", name := "scheme", desc := "()Ljava/util/Optional;" } : Jvm.MethodName)).before a0 Z = true := hw _ (List.mem_of_getElem? (i := 65) rfl)
theorem wd66 {a0 : Array Value} {Z : State} (hw : ∀ d ∈ tables_1, d.before a0 Z = true) : (Jvm.Cond.instanceMethod ({ cls := "com/example/discern/discern/UriReference", name := "scheme", desc := "()Ljava/util/Optional;" } : Jvm.MethodName)).before a0 Z = true := hw _ (List.mem_of_getElem? (i := 66) rfl)
theorem wd67 {a0 : Array Value} {Z : State} (hw : ∀ d ∈ tables_1, d.before a0 Z = true) : (Jvm.Cond.selects "com/example/discern/discern/UriReference" ({ cls := "com/example/discern/discern/UriReference", name := "scheme", desc := "()Ljava/util/Optional;" } : Jvm.MethodName) ({ cls := "com/example/discern/discern/UriReference", name := "scheme", desc := "()Ljava/util/Optional;" } : Jvm.MethodName)).before a0 Z = true := hw _ (List.mem_of_getElem? (i := 67) rfl)
theorem wd68 {a0 : Array Value} {Z : State} (hw : ∀ d ∈ tables_1, d.before a0 Z = true) : (Jvm.Cond.code ({ cls := "com/example/discern/discern/UriReference", name := "scheme", desc := "()Ljava/util/Optional;" } : Jvm.MethodName) prog_53_method_18_code (1 : Nat) (Option.some (Jvm.ClassFile.FieldType.object "java/util/Optional"))).before a0 Z = true := hw _ (List.mem_of_getElem? (i := 68) rfl)
theorem wd69 {a0 : Array Value} {Z : State} (hw : ∀ d ∈ tables_1, d.before a0 Z = true) : (Jvm.Cond.methodLink "com/example/discern/discern/UriReferenceWithoutFragmentPinLaw" (30 : Nat) ({ cls := "java/util/Optional", name := "equals", desc := "(Ljava/lang/Object;)Z" } : Jvm.MethodName)).before a0 Z = true := hw _ (List.mem_of_getElem? (i := 69) rfl)
theorem wd70 {a0 : Array Value} {Z : State} (hw : ∀ d ∈ tables_1, d.before a0 Z = true) : (Jvm.Cond.declares ({ cls := "java/util/Optional", name := "equals", desc := "(Ljava/lang/Object;)Z" } : Jvm.MethodName)).before a0 Z = true := hw _ (List.mem_of_getElem? (i := 70) rfl)
theorem wd71 {a0 : Array Value} {Z : State} (hw : ∀ d ∈ tables_1, d.before a0 Z = true) : (Jvm.Cond.instanceMethod ({ cls := "java/util/Optional", name := "equals", desc := "(Ljava/lang/Object;)Z" } : Jvm.MethodName)).before a0 Z = true := hw _ (List.mem_of_getElem? (i := 71) rfl)
theorem wd72 {a0 : Array Value} {Z : State} (hw : ∀ d ∈ tables_1, d.before a0 Z = true) : (Jvm.Cond.selects "java/util/Optional" ({ cls := "java/util/Optional", name := "equals", desc := "(Ljava/lang/Object;)Z" } : Jvm.MethodName) ({ cls := "java/util/Optional", name := "equals", desc := "(Ljava/lang/Object;)Z" } : Jvm.MethodName)).before a0 Z = true := hw _ (List.mem_of_getElem? (i := 72) rfl)
theorem wd73 {a0 : Array Value} {Z : State} (hw : ∀ d ∈ tables_1, d.before a0 Z = true) : (Jvm.Cond.code ({ cls := "java/util/Optional", name := "equals", desc := "(Ljava/lang/Object;)Z" } : Jvm.MethodName) jdk_32_method_19_code (3 : Nat) (Option.some Jvm.ClassFile.FieldType.boolean)).before a0 Z = true := hw _ (List.mem_of_getElem? (i := 73) rfl)
theorem wd74 {a0 : Array Value} {Z : State} (hw : ∀ d ∈ tables_1, d.before a0 Z = true) : (Jvm.Cond.methodLink "com/example/discern/discern/UriReferenceWithoutFragmentPinLaw" (36 : Nat) ({ cls := "com/example/discern/discern/UriReference", name := "authority", desc := "()Ljava/util/Optional;" } : Jvm.MethodName)).before a0 Z = true := hw _ (List.mem_of_getElem? (i := 74) rfl)
theorem wd75 {a0 : Array Value} {Z : State} (hw : ∀ d ∈ tables_1, d.before a0 Z = true) : (Jvm.Cond.declares ({ cls := "com/example/discern/discern/UriReference", name := "authority", desc := "()Ljava/util/Optional;" } : Jvm.MethodName)).before a0 Z = true := hw _ (List.mem_of_getElem? (i := 75) rfl)
theorem wd76 {a0 : Array Value} {Z : State} (hw : ∀ d ∈ tables_1, d.before a0 Z = true) : (Jvm.Cond.instanceMethod ({ cls := "com/example/discern/discern/UriReference", name := "authority", desc := "()Ljava/util/Optional;" } : Jvm.MethodName)).before a0 Z = true := hw _ (List.mem_of_getElem? (i := 76) rfl)
theorem wd77 {a0 : Array Value} {Z : State} (hw : ∀ d ∈ tables_1, d.before a0 Z = true) : (Jvm.Cond.selects "com/example/discern/discern/UriReference" ({ cls := "com/example/discern/discern/UriReference", name := "authority", desc := "()Ljava/util/Optional;" } : Jvm.MethodName) ({ cls := "com/example/discern/discern/UriReference", name := "authority", desc := "()Ljava/util/Optional;" } : Jvm.MethodName)).before a0 Z = true := hw _ (List.mem_of_getElem? (i := 77) rfl)
theorem wd78 {a0 : Array Value} {Z : State} (hw : ∀ d ∈ tables_1, d.before a0 Z = true) : (Jvm.Cond.code ({ cls := "com/example/discern/discern/UriReference", name := "authority", desc := "()Ljava/util/Optional;" } : Jvm.MethodName) prog_53_method_19_code (1 : Nat) (Option.some (Jvm.ClassFile.FieldType.object "java/util/Optional"))).before a0 Z = true := hw _ (List.mem_of_getElem? (i := 78) rfl)
theorem wd79 {a0 : Array Value} {Z : State} (hw : ∀ d ∈ tables_1, d.before a0 Z = true) : (Jvm.Cond.methodLink "com/example/discern/discern/UriReferenceWithoutFragmentPinLaw" (39 : Nat) ({ cls := "com/example/discern/discern/UriReference", name := "path", desc := "()Ljava/lang/String;" } : Jvm.MethodName)).before a0 Z = true := hw _ (List.mem_of_getElem? (i := 79) rfl)
theorem wd80 {a0 : Array Value} {Z : State} (hw : ∀ d ∈ tables_1, d.before a0 Z = true) : (Jvm.Cond.declares ({ cls := "com/example/discern/discern/UriReference", name := "path", desc := "()Ljava/lang/String;" } : Jvm.MethodName)).before a0 Z = true := hw _ (List.mem_of_getElem? (i := 80) rfl)
theorem wd81 {a0 : Array Value} {Z : State} (hw : ∀ d ∈ tables_1, d.before a0 Z = true) : (Jvm.Cond.instanceMethod ({ cls := "com/example/discern/discern/UriReference", name := "path", desc := "()Ljava/lang/String;" } : Jvm.MethodName)).before a0 Z = true := hw _ (List.mem_of_getElem? (i := 81) rfl)
theorem wd82 {a0 : Array Value} {Z : State} (hw : ∀ d ∈ tables_1, d.before a0 Z = true) : (Jvm.Cond.selects "com/example/discern/discern/UriReference" ({ cls := "com/example/discern/discern/UriReference", name := "path", desc := "()Ljava/lang/String;" } : Jvm.MethodName) ({ cls := "com/example/discern/discern/UriReference", name := "path", desc := "()Ljava/lang/String;" } : Jvm.MethodName)).before a0 Z = true := hw _ (List.mem_of_getElem? (i := 82) rfl)
theorem wd83 {a0 : Array Value} {Z : State} (hw : ∀ d ∈ tables_1, d.before a0 Z = true) : (Jvm.Cond.code ({ cls := "com/example/discern/discern/UriReference", name := "path", desc := "()Ljava/lang/String;" } : Jvm.MethodName) prog_53_method_20_code (1 : Nat) (Option.some (Jvm.ClassFile.FieldType.object "java/lang/String"))).before a0 Z = true := hw _ (List.mem_of_getElem? (i := 83) rfl)
theorem wd84 {a0 : Array Value} {Z : State} (hw : ∀ d ∈ tables_1, d.before a0 Z = true) : (Jvm.Cond.methodLink "com/example/discern/discern/UriReferenceWithoutFragmentPinLaw" (43 : Nat) ({ cls := "java/lang/String", name := "equals", desc := "(Ljava/lang/Object;)Z" } : Jvm.MethodName)).before a0 Z = true := hw _ (List.mem_of_getElem? (i := 84) rfl)
theorem wd85 {a0 : Array Value} {Z : State} (hw : ∀ d ∈ tables_1, d.before a0 Z = true) : (Jvm.Cond.declares ({ cls := "java/lang/String", name := "equals", desc := "(Ljava/lang/Object;)Z" } : Jvm.MethodName)).before a0 Z = true := hw _ (List.mem_of_getElem? (i := 85) rfl)
theorem wd86 {a0 : Array Value} {Z : State} (hw : ∀ d ∈ tables_1, d.before a0 Z = true) : (Jvm.Cond.instanceMethod ({ cls := "java/lang/String", name := "equals", desc := "(Ljava/lang/Object;)Z" } : Jvm.MethodName)).before a0 Z = true := hw _ (List.mem_of_getElem? (i := 86) rfl)
theorem wd87 {a0 : Array Value} {Z : State} (hw : ∀ d ∈ tables_1, d.before a0 Z = true) : (Jvm.Cond.selects "java/lang/String" ({ cls := "java/lang/String", name := "equals", desc := "(Ljava/lang/Object;)Z" } : Jvm.MethodName) ({ cls := "java/lang/String", name := "equals", desc := "(Ljava/lang/Object;)Z" } : Jvm.MethodName)).before a0 Z = true := hw _ (List.mem_of_getElem? (i := 87) rfl)
theorem wd88 {a0 : Array Value} {Z : State} (hw : ∀ d ∈ tables_1, d.before a0 Z = true) : (Jvm.Cond.code ({ cls := "java/lang/String", name := "equals", desc := "(Ljava/lang/Object;)Z" } : Jvm.MethodName) jdk_42_method_66_code (3 : Nat) (Option.some Jvm.ClassFile.FieldType.boolean)).before a0 Z = true := hw _ (List.mem_of_getElem? (i := 88) rfl)
theorem wd89 {a0 : Array Value} {Z : State} (hw : ∀ d ∈ tables_1, d.before a0 Z = true) : (Jvm.Cond.methodLink "com/example/discern/discern/UriReferenceWithoutFragmentPinLaw" (46 : Nat) ({ cls := "com/example/discern/discern/UriReference", name := "query", desc := "()Ljava/util/Optional;" } : Jvm.MethodName)).before a0 Z = true := hw _ (List.mem_of_getElem? (i := 89) rfl)
theorem wd90 {a0 : Array Value} {Z : State} (hw : ∀ d ∈ tables_1, d.before a0 Z = true) : (Jvm.Cond.declares ({ cls := "com/example/discern/discern/UriReference", name := "query", desc := "()Ljava/util/Optional;" } : Jvm.MethodName)).before a0 Z = true := hw _ (List.mem_of_getElem? (i := 90) rfl)
theorem wd91 {a0 : Array Value} {Z : State} (hw : ∀ d ∈ tables_1, d.before a0 Z = true) : (Jvm.Cond.instanceMethod ({ cls := "com/example/discern/discern/UriReference", name := "query", desc := "()Ljava/util/Optional;" } : Jvm.MethodName)).before a0 Z = true := hw _ (List.mem_of_getElem? (i := 91) rfl)
theorem wd92 {a0 : Array Value} {Z : State} (hw : ∀ d ∈ tables_1, d.before a0 Z = true) : (Jvm.Cond.selects "com/example/discern/discern/UriReference" ({ cls := "com/example/discern/discern/UriReference", name := "query", desc := "()Ljava/util/Optional;" } : Jvm.MethodName) ({ cls := "com/example/discern/discern/UriReference", name := "query", desc := "()Ljava/util/Optional;" } : Jvm.MethodName)).before a0 Z = true := hw _ (List.mem_of_getElem? (i := 92) rfl)
theorem wd93 {a0 : Array Value} {Z : State} (hw : ∀ d ∈ tables_1, d.before a0 Z = true) : (Jvm.Cond.code ({ cls := "com/example/discern/discern/UriReference", name := "query", desc := "()Ljava/util/Optional;" } : Jvm.MethodName) prog_53_method_21_code (1 : Nat) (Option.some (Jvm.ClassFile.FieldType.object "java/util/Optional"))).before a0 Z = true := hw _ (List.mem_of_getElem? (i := 93) rfl)
theorem wd94 {a0 : Array Value} {Z : State} (hw : ∀ d ∈ tables_1, d.before a0 Z = true) : (Jvm.Cond.methodLink "com/example/discern/discern/UriReferenceWithoutFragmentPinLaw" (49 : Nat) ({ cls := "com/example/discern/discern/UriReference", name := "fragment", desc := "()Ljava/util/Optional;" } : Jvm.MethodName)).before a0 Z = true := hw _ (List.mem_of_getElem? (i := 94) rfl)
theorem wd95 {a0 : Array Value} {Z : State} (hw : ∀ d ∈ tables_1, d.before a0 Z = true) : (Jvm.Cond.declares ({ cls := "com/example/discern/discern/UriReference", name := "fragment", desc := "()Ljava/util/Optional;" } : Jvm.MethodName)).before a0 Z = true := hw _ (List.mem_of_getElem? (i := 95) rfl)
theorem wd96 {a0 : Array Value} {Z : State} (hw : ∀ d ∈ tables_1, d.before a0 Z = true) : (Jvm.Cond.instanceMethod ({ cls := "com/example/discern/discern/UriReference", name := "fragment", desc := "()Ljava/util/Optional;" } : Jvm.MethodName)).before a0 Z = true := hw _ (List.mem_of_getElem? (i := 96) rfl)
theorem wd97 {a0 : Array Value} {Z : State} (hw : ∀ d ∈ tables_1, d.before a0 Z = true) : (Jvm.Cond.selects "com/example/discern/discern/UriReference" ({ cls := "com/example/discern/discern/UriReference", name := "fragment", desc := "()Ljava/util/Optional;" } : Jvm.MethodName) ({ cls := "com/example/discern/discern/UriReference", name := "fragment", desc := "()Ljava/util/Optional;" } : Jvm.MethodName)).before a0 Z = true := hw _ (List.mem_of_getElem? (i := 97) rfl)
theorem wd98 {a0 : Array Value} {Z : State} (hw : ∀ d ∈ tables_1, d.before a0 Z = true) : (Jvm.Cond.code ({ cls := "com/example/discern/discern/UriReference", name := "fragment", desc := "()Ljava/util/Optional;" } : Jvm.MethodName) prog_53_method_22_code (1 : Nat) (Option.some (Jvm.ClassFile.FieldType.object "java/util/Optional"))).before a0 Z = true := hw _ (List.mem_of_getElem? (i := 98) rfl)
theorem wd99 {a0 : Array Value} {Z : State} (hw : ∀ d ∈ tables_1, d.before a0 Z = true) : (Jvm.Cond.methodLink "com/example/discern/discern/UriReferenceWithoutFragmentPinLaw" (52 : Nat) ({ cls := "java/util/Optional", name := "isPresent", desc := "()Z" } : Jvm.MethodName)).before a0 Z = true := hw _ (List.mem_of_getElem? (i := 99) rfl)
theorem wd100 {a0 : Array Value} {Z : State} (hw : ∀ d ∈ tables_1, d.before a0 Z = true) : (Jvm.Cond.declares ({ cls := "java/util/Optional", name := "isPresent", desc := "()Z" } : Jvm.MethodName)).before a0 Z = true := hw _ (List.mem_of_getElem? (i := 100) rfl)
theorem wd101 {a0 : Array Value} {Z : State} (hw : ∀ d ∈ tables_1, d.before a0 Z = true) : (Jvm.Cond.instanceMethod ({ cls := "java/util/Optional", name := "isPresent", desc := "()Z" } : Jvm.MethodName)).before a0 Z = true := hw _ (List.mem_of_getElem? (i := 101) rfl)
theorem wd102 {a0 : Array Value} {Z : State} (hw : ∀ d ∈ tables_1, d.before a0 Z = true) : (Jvm.Cond.selects "java/util/Optional" ({ cls := "java/util/Optional", name := "isPresent", desc := "()Z" } : Jvm.MethodName) ({ cls := "java/util/Optional", name := "isPresent", desc := "()Z" } : Jvm.MethodName)).before a0 Z = true := hw _ (List.mem_of_getElem? (i := 102) rfl)
theorem wd103 {a0 : Array Value} {Z : State} (hw : ∀ d ∈ tables_1, d.before a0 Z = true) : (Jvm.Cond.code ({ cls := "java/util/Optional", name := "isPresent", desc := "()Z" } : Jvm.MethodName) jdk_32_method_6_code (1 : Nat) (Option.some Jvm.ClassFile.FieldType.boolean)).before a0 Z = true := hw _ (List.mem_of_getElem? (i := 103) rfl)
theorem wd104 {a0 : Array Value} {Z : State} (hw : ∀ d ∈ tables_1, d.before a0 Z = true) : (Jvm.Cond.fieldLink "java/util/Optional" (13 : Nat) "java/util/Optional" "value" "Ljava/lang/Object;").before a0 Z = true := hw _ (List.mem_of_getElem? (i := 104) rfl)
theorem wd105 {a0 : Array Value} {Z : State} (hw : ∀ d ∈ tables_1, d.before a0 Z = true) : (Jvm.Cond.laysFinal "java/util/Optional" "java/util/Optional" "value" "Ljava/lang/Object;").before a0 Z = true := hw _ (List.mem_of_getElem? (i := 105) rfl)
theorem wd106 {a0 : Array Value} {Z : State} (hw : ∀ d ∈ tables_1, d.before a0 Z = true) : (Jvm.Cond.methodLink "com/example/discern/discern/UriReferenceWithoutFragmentPinLaw" (56 : Nat) ({ cls := "java/util/Optional", name := "of", desc := "(Ljava/lang/Object;)Ljava/util/Optional;" } : Jvm.MethodName)).before a0 Z = true := hw _ (List.mem_of_getElem? (i := 106) rfl)
theorem wd107 {a0 : Array Value} {Z : State} (hw : ∀ d ∈ tables_1, d.before a0 Z = true) : (Jvm.Cond.static ({ cls := "java/util/Optional", name := "of", desc := "(Ljava/lang/Object;)Ljava/util/Optional;" } : Jvm.MethodName)).before a0 Z = true := hw _ (List.mem_of_getElem? (i := 107) rfl)
theorem wd108 {a0 : Array Value} {Z : State} (hw : ∀ d ∈ tables_1, d.before a0 Z = true) : (Jvm.Cond.code ({ cls := "java/util/Optional", name := "of", desc := "(Ljava/lang/Object;)Ljava/util/Optional;" } : Jvm.MethodName) jdk_32_method_3_code (1 : Nat) (Option.some (Jvm.ClassFile.FieldType.object "java/util/Optional"))).before a0 Z = true := hw _ (List.mem_of_getElem? (i := 108) rfl)
theorem wd109 {a0 : Array Value} {Z : State} (hw : ∀ d ∈ tables_1, d.before a0 Z = true) : (Jvm.Cond.classLink "java/util/Optional" (2 : Nat) "java/util/Optional").before a0 Z = true := hw _ (List.mem_of_getElem? (i := 109) rfl)
theorem wd110 {a0 : Array Value} {Z : State} (hw : ∀ d ∈ tables_1, d.before a0 Z = true) : (Jvm.Cond.instantiable "java/util/Optional" (1 : Nat)).before a0 Z = true := hw _ (List.mem_of_getElem? (i := 110) rfl)
theorem wd111 {a0 : Array Value} {Z : State} (hw : ∀ d ∈ tables_1, d.before a0 Z = true) : (Jvm.Cond.methodLink "java/util/Optional" (17 : Nat) ({ cls := "java/util/Objects", name := "requireNonNull", desc := "(Ljava/lang/Object;)Ljava/lang/Object;" } : Jvm.MethodName)).before a0 Z = true := hw _ (List.mem_of_getElem? (i := 111) rfl)
theorem wd112 {a0 : Array Value} {Z : State} (hw : ∀ d ∈ tables_1, d.before a0 Z = true) : (Jvm.Cond.static ({ cls := "java/util/Objects", name := "requireNonNull", desc := "(Ljava/lang/Object;)Ljava/lang/Object;" } : Jvm.MethodName)).before a0 Z = true := hw _ (List.mem_of_getElem? (i := 112) rfl)
theorem wd113 {a0 : Array Value} {Z : State} (hw : ∀ d ∈ tables_1, d.before a0 Z = true) : (Jvm.Cond.initialized "java/util/Objects").before a0 Z = true := hw _ (List.mem_of_getElem? (i := 113) rfl)
theorem wd114 {a0 : Array Value} {Z : State} (hw : ∀ d ∈ tables_1, d.before a0 Z = true) : (Jvm.Cond.code ({ cls := "java/util/Objects", name := "requireNonNull", desc := "(Ljava/lang/Object;)Ljava/lang/Object;" } : Jvm.MethodName) jdk_31_method_10_code (1 : Nat) (Option.some (Jvm.ClassFile.FieldType.object "java/lang/Object"))).before a0 Z = true := hw _ (List.mem_of_getElem? (i := 114) rfl)
theorem wd115 {a0 : Array Value} {Z : State} (hw : ∀ d ∈ tables_1, d.before a0 Z = true) : (Jvm.Cond.methodLink "java/util/Optional" (23 : Nat) ({ cls := "java/util/Optional", name := "<init>", desc := "(Ljava/lang/Object;)V" } : Jvm.MethodName)).before a0 Z = true := hw _ (List.mem_of_getElem? (i := 115) rfl)
theorem wd116 {a0 : Array Value} {Z : State} (hw : ∀ d ∈ tables_1, d.before a0 Z = true) : (Jvm.Cond.instanceMethod ({ cls := "java/util/Optional", name := "<init>", desc := "(Ljava/lang/Object;)V" } : Jvm.MethodName)).before a0 Z = true := hw _ (List.mem_of_getElem? (i := 116) rfl)
theorem wd118 {a0 : Array Value} {Z : State} (hw : ∀ d ∈ tables_1, d.before a0 Z = true) : (Jvm.Cond.code ({ cls := "java/util/Optional", name := "<init>", desc := "(Ljava/lang/Object;)V" } : Jvm.MethodName) jdk_32_method_2_code (2 : Nat) (Option.none : Option Jvm.ClassFile.FieldType)).before a0 Z = true := hw _ (List.mem_of_getElem? (i := 118) rfl)
theorem wd119 {a0 : Array Value} {Z : State} (hw : ∀ d ∈ tables_1, d.before a0 Z = true) : (Jvm.Cond.methodLink "java/util/Optional" (7 : Nat) ({ cls := "java/lang/Object", name := "<init>", desc := "()V" } : Jvm.MethodName)).before a0 Z = true := hw _ (List.mem_of_getElem? (i := 119) rfl)
theorem wd120 {a0 : Array Value} {Z : State} (hw : ∀ d ∈ tables_1, d.before a0 Z = true) : (Jvm.Cond.methodLink "com/example/discern/discern/UriReferenceWithoutFragmentPinLaw" (66 : Nat) ({ cls := "java/lang/String", name := "valueOf", desc := "(C)Ljava/lang/String;" } : Jvm.MethodName)).before a0 Z = true := hw _ (List.mem_of_getElem? (i := 120) rfl)
theorem wd121 {a0 : Array Value} {Z : State} (hw : ∀ d ∈ tables_1, d.before a0 Z = true) : (Jvm.Cond.static ({ cls := "java/lang/String", name := "valueOf", desc := "(C)Ljava/lang/String;" } : Jvm.MethodName)).before a0 Z = true := hw _ (List.mem_of_getElem? (i := 121) rfl)
theorem wd122 {a0 : Array Value} {Z : State} (hw : ∀ d ∈ tables_1, d.before a0 Z = true) : (Jvm.Cond.code ({ cls := "java/lang/String", name := "valueOf", desc := "(C)Ljava/lang/String;" } : Jvm.MethodName) jdk_42_method_139_code (1 : Nat) (Option.some (Jvm.ClassFile.FieldType.object "java/lang/String"))).before a0 Z = true := hw _ (List.mem_of_getElem? (i := 122) rfl)
theorem wd123 {a0 : Array Value} {Z : State} (hw : ∀ d ∈ tables_1, d.before a0 Z = true) : (Jvm.Cond.fieldLink "java/lang/String" (38 : Nat) "java/lang/String" "COMPACT_STRINGS" "Z").before a0 Z = true := hw _ (List.mem_of_getElem? (i := 123) rfl)
theorem wd124 {a0 : Array Value} {Z : State} (hw : ∀ d ∈ tables_1, d.before a0 Z = true) : (Jvm.Cond.methodLink "java/lang/String" (1015 : Nat) ({ cls := "java/lang/StringLatin1", name := "canEncode", desc := "(C)Z" } : Jvm.MethodName)).before a0 Z = true := hw _ (List.mem_of_getElem? (i := 124) rfl)
theorem wd125 {a0 : Array Value} {Z : State} (hw : ∀ d ∈ tables_1, d.before a0 Z = true) : (Jvm.Cond.static ({ cls := "java/lang/StringLatin1", name := "canEncode", desc := "(C)Z" } : Jvm.MethodName)).before a0 Z = true := hw _ (List.mem_of_getElem? (i := 125) rfl)
theorem wd126 {a0 : Array Value} {Z : State} (hw : ∀ d ∈ tables_1, d.before a0 Z = true) : (Jvm.Cond.initialized "java/lang/StringLatin1").before a0 Z = true := hw _ (List.mem_of_getElem? (i := 126) rfl)
theorem wd127 {a0 : Array Value} {Z : State} (hw : ∀ d ∈ tables_1, d.before a0 Z = true) : (Jvm.Cond.code ({ cls := "java/lang/StringLatin1", name := "canEncode", desc := "(C)Z" } : Jvm.MethodName) jdk_43_method_3_code (1 : Nat) (Option.some Jvm.ClassFile.FieldType.boolean)).before a0 Z = true := hw _ (List.mem_of_getElem? (i := 127) rfl)
theorem wd128 {a0 : Array Value} {Z : State} (hw : ∀ d ∈ tables_1, d.before a0 Z = true) : (Jvm.Cond.classLink "java/lang/String" (10 : Nat) "java/lang/String").before a0 Z = true := hw _ (List.mem_of_getElem? (i := 128) rfl)
theorem wd129 {a0 : Array Value} {Z : State} (hw : ∀ d ∈ tables_1, d.before a0 Z = true) : (Jvm.Cond.methodLink "java/lang/String" (1018 : Nat) ({ cls := "java/lang/StringLatin1", name := "toBytes", desc := "(C)[B" } : Jvm.MethodName)).before a0 Z = true := hw _ (List.mem_of_getElem? (i := 129) rfl)
theorem wd130 {a0 : Array Value} {Z : State} (hw : ∀ d ∈ tables_1, d.before a0 Z = true) : (Jvm.Cond.static ({ cls := "java/lang/StringLatin1", name := "toBytes", desc := "(C)[B" } : Jvm.MethodName)).before a0 Z = true := hw _ (List.mem_of_getElem? (i := 130) rfl)
theorem wd131 {a0 : Array Value} {Z : State} (hw : ∀ d ∈ tables_1, d.before a0 Z = true) : (Jvm.Cond.code ({ cls := "java/lang/StringLatin1", name := "toBytes", desc := "(C)[B" } : Jvm.MethodName) jdk_43_method_46_code (1 : Nat) (Option.some (Jvm.ClassFile.FieldType.array Jvm.ClassFile.FieldType.byte))).before a0 Z = true := hw _ (List.mem_of_getElem? (i := 131) rfl)
theorem wd132 {a0 : Array Value} {Z : State} (hw : ∀ d ∈ tables_1, d.before a0 Z = true) : (Jvm.Cond.methodLink "java/lang/String" (209 : Nat) ({ cls := "java/lang/String", name := "<init>", desc := "([BB)V" } : Jvm.MethodName)).before a0 Z = true := hw _ (List.mem_of_getElem? (i := 132) rfl)
theorem wd133 {a0 : Array Value} {Z : State} (hw : ∀ d ∈ tables_1, d.before a0 Z = true) : (Jvm.Cond.instanceMethod ({ cls := "java/lang/String", name := "<init>", desc := "([BB)V" } : Jvm.MethodName)).before a0 Z = true := hw _ (List.mem_of_getElem? (i := 133) rfl)
theorem wd134 {a0 : Array Value} {Z : State} (hw : ∀ d ∈ tables_1, d.before a0 Z = true) : (Jvm.Cond.code ({ cls := "java/lang/String", name := "<init>", desc := "([BB)V" } : Jvm.MethodName) jdk_42_method_151_code (3 : Nat) (Option.none : Option Jvm.ClassFile.FieldType)).before a0 Z = true := hw _ (List.mem_of_getElem? (i := 134) rfl)
theorem d_jdk_43_method_3_code_0 : decode jdk_43_method_3_code 0 = .ok (.iload_n 0, 1) := by decide +kernel
theorem d_jdk_43_method_3_code_1 : decode jdk_43_method_3_code 1 = .ok (.sipush 255, 3) := by decide +kernel
theorem d_jdk_43_method_3_code_4 : decode jdk_43_method_3_code 4 = .ok (.if_icmp .gt 7, 3) := by decide +kernel
theorem d_jdk_43_method_3_code_7 : decode jdk_43_method_3_code 7 = .ok (.iconst 1, 1) := by decide +kernel
theorem d_jdk_43_method_3_code_8 : decode jdk_43_method_3_code 8 = .ok (.goto 4, 3) := by decide +kernel
theorem d_jdk_43_method_3_code_12 : decode jdk_43_method_3_code 12 = .ok (.ireturn, 1) := by decide +kernel
theorem d_jdk_43_method_46_code_0 : decode jdk_43_method_46_code 0 = .ok (.iconst 1, 1) := by decide +kernel
theorem d_jdk_43_method_46_code_1 : decode jdk_43_method_46_code 1 = .ok (.newarray .byte, 2) := by decide +kernel
theorem d_jdk_43_method_46_code_3 : decode jdk_43_method_46_code 3 = .ok (.dup, 1) := by decide +kernel
theorem d_jdk_43_method_46_code_4 : decode jdk_43_method_46_code 4 = .ok (.iconst 0, 1) := by decide +kernel
theorem d_jdk_43_method_46_code_5 : decode jdk_43_method_46_code 5 = .ok (.iload_n 0, 1) := by decide +kernel
theorem d_jdk_43_method_46_code_6 : decode jdk_43_method_46_code 6 = .ok (.i2b, 1) := by decide +kernel
theorem d_jdk_43_method_46_code_7 : decode jdk_43_method_46_code 7 = .ok (.bastore, 1) := by decide +kernel
theorem d_jdk_43_method_46_code_8 : decode jdk_43_method_46_code 8 = .ok (.areturn, 1) := by decide +kernel
theorem d_jdk_42_method_151_code_0 : decode jdk_42_method_151_code 0 = .ok (.aload_n 0, 1) := by decide +kernel
theorem d_jdk_42_method_151_code_1 : decode jdk_42_method_151_code 1 = .ok (.invokespecial 1, 3) := by decide +kernel
theorem d_jdk_42_method_151_code_4 : decode jdk_42_method_151_code 4 = .ok (.aload_n 0, 1) := by decide +kernel
theorem d_jdk_42_method_151_code_5 : decode jdk_42_method_151_code 5 = .ok (.aload_n 1, 1) := by decide +kernel
theorem d_jdk_42_method_151_code_6 : decode jdk_42_method_151_code 6 = .ok (.putfield 9, 3) := by decide +kernel
theorem d_jdk_42_method_151_code_9 : decode jdk_42_method_151_code 9 = .ok (.aload_n 0, 1) := by decide +kernel
theorem d_jdk_42_method_151_code_10 : decode jdk_42_method_151_code 10 = .ok (.iload_n 2, 1) := by decide +kernel
theorem d_jdk_42_method_151_code_11 : decode jdk_42_method_151_code 11 = .ok (.putfield 15, 3) := by decide +kernel
theorem d_jdk_42_method_151_code_14 : decode jdk_42_method_151_code 14 = .ok (.return_, 1) := by decide +kernel
theorem d_jdk_42_method_139_code_0 : decode jdk_42_method_139_code 0 = .ok (.getstatic 38, 3) := by decide +kernel
theorem d_jdk_42_method_139_code_3 : decode jdk_42_method_139_code 3 = .ok (.ifCond .eq 23, 3) := by decide +kernel
theorem d_jdk_42_method_139_code_6 : decode jdk_42_method_139_code 6 = .ok (.iload_n 0, 1) := by decide +kernel
theorem d_jdk_42_method_139_code_7 : decode jdk_42_method_139_code 7 = .ok (.invokestatic 1015, 3) := by decide +kernel
theorem d_jdk_42_method_139_code_10 : decode jdk_42_method_139_code 10 = .ok (.ifCond .eq 16, 3) := by decide +kernel
theorem d_jdk_42_method_139_code_13 : decode jdk_42_method_139_code 13 = .ok (.new 10, 3) := by decide +kernel
theorem d_jdk_42_method_139_code_16 : decode jdk_42_method_139_code 16 = .ok (.dup, 1) := by decide +kernel
theorem d_jdk_42_method_139_code_17 : decode jdk_42_method_139_code 17 = .ok (.iload_n 0, 1) := by decide +kernel
theorem d_jdk_42_method_139_code_18 : decode jdk_42_method_139_code 18 = .ok (.invokestatic 1018, 3) := by decide +kernel
theorem d_jdk_42_method_139_code_21 : decode jdk_42_method_139_code 21 = .ok (.iconst 0, 1) := by decide +kernel
theorem d_jdk_42_method_139_code_22 : decode jdk_42_method_139_code 22 = .ok (.invokespecial 209, 3) := by decide +kernel
theorem d_jdk_42_method_139_code_25 : decode jdk_42_method_139_code 25 = .ok (.areturn, 1) := by decide +kernel
theorem d_jdk_42_method_149_code_0 : decode jdk_42_method_149_code 0 = .ok (.aload_n 0, 1) := by decide +kernel
theorem d_jdk_42_method_149_code_1 : decode jdk_42_method_149_code 1 = .ok (.invokespecial 1, 3) := by decide +kernel
theorem d_jdk_42_method_149_code_4 : decode jdk_42_method_149_code 4 = .ok (.iload_n 3, 1) := by decide +kernel
theorem d_jdk_42_method_149_code_5 : decode jdk_42_method_149_code 5 = .ok (.ifCond .ne 22, 3) := by decide +kernel
theorem d_jdk_42_method_149_code_8 : decode jdk_42_method_149_code 8 = .ok (.aload_n 0, 1) := by decide +kernel
theorem d_jdk_42_method_149_code_9 : decode jdk_42_method_149_code 9 = .ok (.ldc 7, 2) := by decide +kernel
theorem d_jdk_42_method_149_code_11 : decode jdk_42_method_149_code 11 = .ok (.getfield 9, 3) := by decide +kernel
theorem d_jdk_42_method_149_code_14 : decode jdk_42_method_149_code 14 = .ok (.putfield 9, 3) := by decide +kernel
theorem d_jdk_42_method_149_code_17 : decode jdk_42_method_149_code 17 = .ok (.aload_n 0, 1) := by decide +kernel
theorem d_jdk_42_method_149_code_18 : decode jdk_42_method_149_code 18 = .ok (.ldc 7, 2) := by decide +kernel
theorem d_jdk_42_method_149_code_20 : decode jdk_42_method_149_code 20 = .ok (.getfield 15, 3) := by decide +kernel
theorem d_jdk_42_method_149_code_23 : decode jdk_42_method_149_code 23 = .ok (.putfield 15, 3) := by decide +kernel
theorem d_jdk_42_method_149_code_26 : decode jdk_42_method_149_code 26 = .ok (.return_, 1) := by decide +kernel
theorem d_jdk_42_method_3_code_0 : decode jdk_42_method_3_code 0 = .ok (.aload_n 0, 1) := by decide +kernel
theorem d_jdk_42_method_3_code_1 : decode jdk_42_method_3_code 1 = .ok (.aload_n 1, 1) := by decide +kernel
theorem d_jdk_42_method_3_code_2 : decode jdk_42_method_3_code 2 = .ok (.iconst 0, 1) := by decide +kernel
theorem d_jdk_42_method_3_code_3 : decode jdk_42_method_3_code 3 = .ok (.aload_n 1, 1) := by decide +kernel
theorem d_jdk_42_method_3_code_4 : decode jdk_42_method_3_code 4 = .ok (.arraylength, 1) := by decide +kernel
theorem d_jdk_42_method_3_code_5 : decode jdk_42_method_3_code 5 = .ok (.aconst_null, 1) := by decide +kernel
theorem d_jdk_42_method_3_code_6 : decode jdk_42_method_3_code 6 = .ok (.invokespecial 27, 3) := by decide +kernel
theorem d_jdk_42_method_3_code_9 : decode jdk_42_method_3_code 9 = .ok (.return_, 1) := by decide +kernel
theorem d_method_4_code_0 : decode method_4_code 0 = .ok (.iload_n 0, 1) := by decide +kernel
theorem d_method_4_code_1 : decode method_4_code 1 = .ok (.bipush 16, 2) := by decide +kernel
theorem d_method_4_code_3 : decode method_4_code 3 = .ok (.iushr, 1) := by decide +kernel
theorem d_method_4_code_4 : decode method_4_code 4 = .ok (.iconst 3, 1) := by decide +kernel
theorem d_method_4_code_5 : decode method_4_code 5 = .ok (.iand, 1) := by decide +kernel
theorem d_method_4_code_6 : decode method_4_code 6 = .ok (.istore_n 1, 1) := by decide +kernel
theorem d_method_4_code_7 : decode method_4_code 7 = .ok (.iload_n 0, 1) := by decide +kernel
theorem d_method_4_code_8 : decode method_4_code 8 = .ok (.sipush 255, 3) := by decide +kernel
theorem d_method_4_code_11 : decode method_4_code 11 = .ok (.iand, 1) := by decide +kernel
theorem d_method_4_code_12 : decode method_4_code 12 = .ok (.i2c, 1) := by decide +kernel
theorem d_method_4_code_13 : decode method_4_code 13 = .ok (.istore_n 2, 1) := by decide +kernel
theorem d_method_4_code_14 : decode method_4_code 14 = .ok (.iload_n 0, 1) := by decide +kernel
theorem d_method_4_code_15 : decode method_4_code 15 = .ok (.bipush 8, 2) := by decide +kernel
theorem d_method_4_code_17 : decode method_4_code 17 = .ok (.iushr, 1) := by decide +kernel
theorem d_method_4_code_18 : decode method_4_code 18 = .ok (.sipush 255, 3) := by decide +kernel
theorem d_method_4_code_21 : decode method_4_code 21 = .ok (.iand, 1) := by decide +kernel
theorem d_method_4_code_22 : decode method_4_code 22 = .ok (.i2c, 1) := by decide +kernel
theorem d_method_4_code_23 : decode method_4_code 23 = .ok (.istore_n 3, 1) := by decide +kernel
theorem d_method_4_code_24 : decode method_4_code 24 = .ok (.iload_n 1, 1) := by decide +kernel
theorem d_method_4_code_25 : decode method_4_code 25 = .ok (.ifCond .ne 14, 3) := by decide +kernel
theorem d_method_4_code_28 : decode method_4_code 28 = .ok (.new 44, 3) := by decide +kernel
theorem d_method_4_code_31 : decode method_4_code 31 = .ok (.dup, 1) := by decide +kernel
theorem d_method_4_code_32 : decode method_4_code 32 = .ok (.iconst 0, 1) := by decide +kernel
theorem d_method_4_code_33 : decode method_4_code 33 = .ok (.newarray .char, 2) := by decide +kernel
theorem d_method_4_code_35 : decode method_4_code 35 = .ok (.invokespecial 63, 3) := by decide +kernel
theorem d_method_4_code_38 : decode method_4_code 38 = .ok (.areturn, 1) := by decide +kernel
theorem d_method_4_code_39 : decode method_4_code 39 = .ok (.iload_n 1, 1) := by decide +kernel
theorem d_method_4_code_40 : decode method_4_code 40 = .ok (.iconst 1, 1) := by decide +kernel
theorem d_method_4_code_41 : decode method_4_code 41 = .ok (.if_icmp .ne 8, 3) := by decide +kernel
theorem d_method_4_code_44 : decode method_4_code 44 = .ok (.iload_n 2, 1) := by decide +kernel
theorem d_method_4_code_45 : decode method_4_code 45 = .ok (.invokestatic 66, 3) := by decide +kernel
theorem d_method_4_code_48 : decode method_4_code 48 = .ok (.areturn, 1) := by decide +kernel
theorem d_method_4_code_49 : decode method_4_code 49 = .ok (.iconst 2, 1) := by decide +kernel
theorem d_method_4_code_50 : decode method_4_code 50 = .ok (.newarray .char, 2) := by decide +kernel
theorem d_method_4_code_52 : decode method_4_code 52 = .ok (.astore 4, 2) := by decide +kernel
theorem d_method_4_code_54 : decode method_4_code 54 = .ok (.aload 4, 2) := by decide +kernel
theorem d_method_4_code_56 : decode method_4_code 56 = .ok (.iconst 0, 1) := by decide +kernel
theorem d_method_4_code_57 : decode method_4_code 57 = .ok (.iload_n 2, 1) := by decide +kernel
theorem d_method_4_code_58 : decode method_4_code 58 = .ok (.castore, 1) := by decide +kernel
theorem d_method_4_code_59 : decode method_4_code 59 = .ok (.aload 4, 2) := by decide +kernel
theorem d_method_4_code_61 : decode method_4_code 61 = .ok (.iconst 1, 1) := by decide +kernel
theorem d_method_4_code_62 : decode method_4_code 62 = .ok (.iload_n 3, 1) := by decide +kernel
theorem d_method_4_code_63 : decode method_4_code 63 = .ok (.castore, 1) := by decide +kernel
theorem d_method_4_code_64 : decode method_4_code 64 = .ok (.new 44, 3) := by decide +kernel
theorem d_method_4_code_67 : decode method_4_code 67 = .ok (.dup, 1) := by decide +kernel
theorem d_method_4_code_68 : decode method_4_code 68 = .ok (.aload 4, 2) := by decide +kernel
theorem d_method_4_code_70 : decode method_4_code 70 = .ok (.invokespecial 63, 3) := by decide +kernel
theorem d_method_4_code_73 : decode method_4_code 73 = .ok (.areturn, 1) := by decide +kernel
theorem d_jdk_31_method_10_code_0 : decode jdk_31_method_10_code 0 = .ok (.aload_n 0, 1) := by decide +kernel
theorem d_jdk_31_method_10_code_1 : decode jdk_31_method_10_code 1 = .ok (.ifnonnull 11, 3) := by decide +kernel
theorem d_jdk_31_method_10_code_12 : decode jdk_31_method_10_code 12 = .ok (.aload_n 0, 1) := by decide +kernel
theorem d_jdk_31_method_10_code_13 : decode jdk_31_method_10_code 13 = .ok (.areturn, 1) := by decide +kernel
theorem d_jdk_32_method_2_code_0 : decode jdk_32_method_2_code 0 = .ok (.aload_n 0, 1) := by decide +kernel
theorem d_jdk_32_method_2_code_1 : decode jdk_32_method_2_code 1 = .ok (.invokespecial 7, 3) := by decide +kernel
theorem d_jdk_32_method_2_code_4 : decode jdk_32_method_2_code 4 = .ok (.aload_n 0, 1) := by decide +kernel
theorem d_jdk_32_method_2_code_5 : decode jdk_32_method_2_code 5 = .ok (.aload_n 1, 1) := by decide +kernel
theorem d_jdk_32_method_2_code_6 : decode jdk_32_method_2_code 6 = .ok (.putfield 13, 3) := by decide +kernel
theorem d_jdk_32_method_2_code_9 : decode jdk_32_method_2_code 9 = .ok (.return_, 1) := by decide +kernel
theorem d_jdk_32_method_3_code_0 : decode jdk_32_method_3_code 0 = .ok (.new 2, 3) := by decide +kernel
theorem d_jdk_32_method_3_code_3 : decode jdk_32_method_3_code 3 = .ok (.dup, 1) := by decide +kernel
theorem d_jdk_32_method_3_code_4 : decode jdk_32_method_3_code 4 = .ok (.aload_n 0, 1) := by decide +kernel
theorem d_jdk_32_method_3_code_5 : decode jdk_32_method_3_code 5 = .ok (.invokestatic 17, 3) := by decide +kernel
theorem d_jdk_32_method_3_code_8 : decode jdk_32_method_3_code 8 = .ok (.invokespecial 23, 3) := by decide +kernel
theorem d_jdk_32_method_3_code_11 : decode jdk_32_method_3_code 11 = .ok (.areturn, 1) := by decide +kernel
theorem d_jdk_32_method_1_code_0 : decode jdk_32_method_1_code 0 = .ok (.getstatic 1, 3) := by decide +kernel
theorem d_jdk_32_method_1_code_3 : decode jdk_32_method_1_code 3 = .ok (.astore_n 0, 1) := by decide +kernel
theorem d_jdk_32_method_1_code_4 : decode jdk_32_method_1_code 4 = .ok (.aload_n 0, 1) := by decide +kernel
theorem d_jdk_32_method_1_code_5 : decode jdk_32_method_1_code 5 = .ok (.areturn, 1) := by decide +kernel
theorem d_method_3_code_0 : decode method_3_code 0 = .ok (.iload_n 0, 1) := by decide +kernel
theorem d_method_3_code_1 : decode method_3_code 1 = .ok (.ifCond .eq 11, 3) := by decide +kernel
theorem d_method_3_code_4 : decode method_3_code 4 = .ok (.iload_n 1, 1) := by decide +kernel
theorem d_method_3_code_5 : decode method_3_code 5 = .ok (.invokestatic 13, 3) := by decide +kernel
theorem d_method_3_code_8 : decode method_3_code 8 = .ok (.invokestatic 56, 3) := by decide +kernel
theorem d_method_3_code_11 : decode method_3_code 11 = .ok (.areturn, 1) := by decide +kernel
theorem d_method_3_code_12 : decode method_3_code 12 = .ok (.invokestatic 60, 3) := by decide +kernel
theorem d_method_3_code_15 : decode method_3_code 15 = .ok (.areturn, 1) := by decide +kernel
theorem d_jdk_30_method_1_code_0 : decode jdk_30_method_1_code 0 = .ok (.aload_n 0, 1) := by decide +kernel
theorem d_jdk_30_method_1_code_1 : decode jdk_30_method_1_code 1 = .ok (.invokespecial 1, 3) := by decide +kernel
theorem d_jdk_30_method_1_code_4 : decode jdk_30_method_1_code 4 = .ok (.return_, 1) := by decide +kernel
theorem d_prog_53_method_1_code_0 : decode prog_53_method_1_code 0 = .ok (.aload_n 0, 1) := by decide +kernel
theorem d_prog_53_method_1_code_1 : decode prog_53_method_1_code 1 = .ok (.invokespecial 1, 3) := by decide +kernel
theorem d_prog_53_method_1_code_4 : decode prog_53_method_1_code 4 = .ok (.aload_n 0, 1) := by decide +kernel
theorem d_prog_53_method_1_code_5 : decode prog_53_method_1_code 5 = .ok (.aload_n 1, 1) := by decide +kernel
theorem d_prog_53_method_1_code_6 : decode prog_53_method_1_code 6 = .ok (.putfield 7, 3) := by decide +kernel
theorem d_prog_53_method_1_code_9 : decode prog_53_method_1_code 9 = .ok (.aload_n 0, 1) := by decide +kernel
theorem d_prog_53_method_1_code_10 : decode prog_53_method_1_code 10 = .ok (.aload_n 2, 1) := by decide +kernel
theorem d_prog_53_method_1_code_11 : decode prog_53_method_1_code 11 = .ok (.putfield 13, 3) := by decide +kernel
theorem d_prog_53_method_1_code_14 : decode prog_53_method_1_code 14 = .ok (.aload_n 0, 1) := by decide +kernel
theorem d_prog_53_method_1_code_15 : decode prog_53_method_1_code 15 = .ok (.aload_n 3, 1) := by decide +kernel
theorem d_prog_53_method_1_code_16 : decode prog_53_method_1_code 16 = .ok (.putfield 16, 3) := by decide +kernel
theorem d_prog_53_method_1_code_19 : decode prog_53_method_1_code 19 = .ok (.aload_n 0, 1) := by decide +kernel
theorem d_prog_53_method_1_code_20 : decode prog_53_method_1_code 20 = .ok (.aload 4, 2) := by decide +kernel
theorem d_prog_53_method_1_code_22 : decode prog_53_method_1_code 22 = .ok (.putfield 20, 3) := by decide +kernel
theorem d_prog_53_method_1_code_25 : decode prog_53_method_1_code 25 = .ok (.aload_n 0, 1) := by decide +kernel
theorem d_prog_53_method_1_code_26 : decode prog_53_method_1_code 26 = .ok (.aload 5, 2) := by decide +kernel
theorem d_prog_53_method_1_code_28 : decode prog_53_method_1_code 28 = .ok (.putfield 23, 3) := by decide +kernel
theorem d_prog_53_method_1_code_31 : decode prog_53_method_1_code 31 = .ok (.return_, 1) := by decide +kernel
theorem d_prog_53_method_18_code_0 : decode prog_53_method_18_code 0 = .ok (.aload_n 0, 1) := by decide +kernel
theorem d_prog_53_method_18_code_1 : decode prog_53_method_18_code 1 = .ok (.getfield 7, 3) := by decide +kernel
theorem d_prog_53_method_18_code_4 : decode prog_53_method_18_code 4 = .ok (.areturn, 1) := by decide +kernel
theorem d_prog_53_method_19_code_0 : decode prog_53_method_19_code 0 = .ok (.aload_n 0, 1) := by decide +kernel
theorem d_prog_53_method_19_code_1 : decode prog_53_method_19_code 1 = .ok (.getfield 13, 3) := by decide +kernel
theorem d_prog_53_method_19_code_4 : decode prog_53_method_19_code 4 = .ok (.areturn, 1) := by decide +kernel
theorem d_prog_53_method_20_code_0 : decode prog_53_method_20_code 0 = .ok (.aload_n 0, 1) := by decide +kernel
theorem d_prog_53_method_20_code_1 : decode prog_53_method_20_code 1 = .ok (.getfield 16, 3) := by decide +kernel
theorem d_prog_53_method_20_code_4 : decode prog_53_method_20_code 4 = .ok (.areturn, 1) := by decide +kernel
theorem d_prog_53_method_21_code_0 : decode prog_53_method_21_code 0 = .ok (.aload_n 0, 1) := by decide +kernel
theorem d_prog_53_method_21_code_1 : decode prog_53_method_21_code 1 = .ok (.getfield 20, 3) := by decide +kernel
theorem d_prog_53_method_21_code_4 : decode prog_53_method_21_code 4 = .ok (.areturn, 1) := by decide +kernel
theorem d_prog_53_method_22_code_0 : decode prog_53_method_22_code 0 = .ok (.aload_n 0, 1) := by decide +kernel
theorem d_prog_53_method_22_code_1 : decode prog_53_method_22_code 1 = .ok (.getfield 23, 3) := by decide +kernel
theorem d_prog_53_method_22_code_4 : decode prog_53_method_22_code 4 = .ok (.areturn, 1) := by decide +kernel
theorem d_prog_53_method_5_code_0 : decode prog_53_method_5_code 0 = .ok (.new 8, 3) := by decide +kernel
theorem d_prog_53_method_5_code_3 : decode prog_53_method_5_code 3 = .ok (.dup, 1) := by decide +kernel
theorem d_prog_53_method_5_code_4 : decode prog_53_method_5_code 4 = .ok (.aload_n 0, 1) := by decide +kernel
theorem d_prog_53_method_5_code_5 : decode prog_53_method_5_code 5 = .ok (.getfield 7, 3) := by decide +kernel
theorem d_prog_53_method_5_code_8 : decode prog_53_method_5_code 8 = .ok (.aload_n 0, 1) := by decide +kernel
theorem d_prog_53_method_5_code_9 : decode prog_53_method_5_code 9 = .ok (.getfield 13, 3) := by decide +kernel
theorem d_prog_53_method_5_code_12 : decode prog_53_method_5_code 12 = .ok (.aload_n 0, 1) := by decide +kernel
theorem d_prog_53_method_5_code_13 : decode prog_53_method_5_code 13 = .ok (.getfield 16, 3) := by decide +kernel
theorem d_prog_53_method_5_code_16 : decode prog_53_method_5_code 16 = .ok (.aload_n 0, 1) := by decide +kernel
theorem d_prog_53_method_5_code_17 : decode prog_53_method_5_code 17 = .ok (.getfield 20, 3) := by decide +kernel
theorem d_prog_53_method_5_code_20 : decode prog_53_method_5_code 20 = .ok (.invokestatic 135, 3) := by decide +kernel
theorem d_prog_53_method_5_code_23 : decode prog_53_method_5_code 23 = .ok (.invokespecial 98, 3) := by decide +kernel
theorem d_prog_53_method_5_code_26 : decode prog_53_method_5_code 26 = .ok (.areturn, 1) := by decide +kernel
theorem d_jdk_32_method_19_code_0 : decode jdk_32_method_19_code 0 = .ok (.aload_n 0, 1) := by decide +kernel
theorem d_jdk_32_method_19_code_1 : decode jdk_32_method_19_code 1 = .ok (.aload_n 1, 1) := by decide +kernel
theorem d_jdk_32_method_19_code_2 : decode jdk_32_method_19_code 2 = .ok (.if_acmp .ne 5, 3) := by decide +kernel
theorem d_jdk_32_method_19_code_5 : decode jdk_32_method_19_code 5 = .ok (.iconst 1, 1) := by decide +kernel
theorem d_jdk_32_method_19_code_6 : decode jdk_32_method_19_code 6 = .ok (.ireturn, 1) := by decide +kernel
theorem d_jdk_42_method_66_code_0 : decode jdk_42_method_66_code 0 = .ok (.aload_n 0, 1) := by decide +kernel
theorem d_jdk_42_method_66_code_1 : decode jdk_42_method_66_code 1 = .ok (.aload_n 1, 1) := by decide +kernel
theorem d_jdk_42_method_66_code_2 : decode jdk_42_method_66_code 2 = .ok (.if_acmp .ne 5, 3) := by decide +kernel
theorem d_jdk_42_method_66_code_5 : decode jdk_42_method_66_code 5 = .ok (.iconst 1, 1) := by decide +kernel
theorem d_jdk_42_method_66_code_6 : decode jdk_42_method_66_code 6 = .ok (.ireturn, 1) := by decide +kernel
theorem d_jdk_32_method_6_code_0 : decode jdk_32_method_6_code 0 = .ok (.aload_n 0, 1) := by decide +kernel
theorem d_jdk_32_method_6_code_1 : decode jdk_32_method_6_code 1 = .ok (.getfield 13, 3) := by decide +kernel
theorem d_jdk_32_method_6_code_4 : decode jdk_32_method_6_code 4 = .ok (.ifnull 7, 3) := by decide +kernel
theorem d_jdk_32_method_6_code_11 : decode jdk_32_method_6_code 11 = .ok (.iconst 0, 1) := by decide +kernel
theorem d_jdk_32_method_6_code_12 : decode jdk_32_method_6_code 12 = .ok (.ireturn, 1) := by decide +kernel
theorem pn0 : plainName "java/lang/StringLatin1" = true := by first | (simp [plainName, overriddenIn]; done) | decide +kernel
theorem pn1 : plainName "java/lang/String" = true := by first | (simp [plainName, overriddenIn]; done) | decide +kernel
theorem pn2 : plainName "com/example/discern/discern/UriReferenceWithoutFragmentPinLaw" = true := by first | (simp [plainName, overriddenIn]; done) | decide +kernel
theorem pn3 : plainName "java/util/Objects" = true := by first | (simp [plainName, overriddenIn]; done) | decide +kernel
theorem pn4 : plainName "java/util/Optional" = true := by first | (simp [plainName, overriddenIn]; done) | decide +kernel
theorem pn5 : plainName "java/lang/Record" = true := by first | (simp [plainName, overriddenIn]; done) | decide +kernel
theorem pn6 : plainName "com/example/discern/discern/UriReference" = true := by first | (simp [plainName, overriddenIn]; done) | decide +kernel
theorem pd0 : parseMethodDescriptor "(C)Z" = some ⟨[.char], some .boolean⟩ := by decide +kernel
theorem pd1 : parseMethodDescriptor "(C)[B" = some ⟨[.char], some (.array .byte)⟩ := by decide +kernel
theorem pd2 : parseMethodDescriptor "([BB)V" = some ⟨[(.array .byte), .byte], none⟩ := by decide +kernel
theorem pd3 : parseMethodDescriptor "([CIILjava/lang/Void;)V" = some ⟨[(.array .char), .int, .int, (.object "java/lang/Void")], none⟩ := by decide +kernel
theorem pd4 : parseMethodDescriptor "([C)V" = some ⟨[(.array .char)], none⟩ := by decide +kernel
theorem pd5 : parseMethodDescriptor "(C)Ljava/lang/String;" = some ⟨[.char], some (.object "java/lang/String")⟩ := by decide +kernel
theorem pd6 : parseMethodDescriptor "(Ljava/lang/Object;)Ljava/lang/Object;" = some ⟨[(.object "java/lang/Object")], some (.object "java/lang/Object")⟩ := by decide +kernel
theorem pd7 : parseMethodDescriptor "(Ljava/lang/Object;)V" = some ⟨[(.object "java/lang/Object")], none⟩ := by decide +kernel
theorem pd8 : parseMethodDescriptor "()Ljava/util/Optional;" = some ⟨[], some (.object "java/util/Optional")⟩ := by decide +kernel
theorem pd9 : parseMethodDescriptor "(I)Ljava/lang/String;" = some ⟨[.int], some (.object "java/lang/String")⟩ := by decide +kernel
theorem pd10 : parseMethodDescriptor "(Ljava/lang/Object;)Ljava/util/Optional;" = some ⟨[(.object "java/lang/Object")], some (.object "java/util/Optional")⟩ := by decide +kernel
theorem pd11 : parseMethodDescriptor "()V" = some ⟨[], none⟩ := by decide +kernel
theorem pd12 : parseMethodDescriptor "(Ljava/util/Optional;Ljava/util/Optional;Ljava/lang/String;Ljava/util/Optional;Ljava/util/Optional;)V" = some ⟨[(.object "java/util/Optional"), (.object "java/util/Optional"), (.object "java/lang/String"), (.object "java/util/Optional"), (.object "java/util/Optional")], none⟩ := by decide +kernel
theorem pd13 : parseMethodDescriptor "(ZI)Ljava/util/Optional;" = some ⟨[.boolean, .int], some (.object "java/util/Optional")⟩ := by decide +kernel
theorem pd14 : parseMethodDescriptor "()Lcom/example/discern/discern/UriReference;" = some ⟨[], some (.object "com/example/discern/discern/UriReference")⟩ := by decide +kernel
theorem pd15 : parseMethodDescriptor "(Ljava/lang/Object;)Z" = some ⟨[(.object "java/lang/Object")], some .boolean⟩ := by decide +kernel
theorem pd16 : parseMethodDescriptor "()Ljava/lang/String;" = some ⟨[], some (.object "java/lang/String")⟩ := by decide +kernel
theorem pd17 : parseMethodDescriptor "()Z" = some ⟨[], some .boolean⟩ := by decide +kernel
/-- new String(char[]) of one to 4,000 chars, none above 255: who pays it -/
theorem own_newStr {Z : State} {a0 : Array Value} (hws : ∀ d ∈ StrChars.Road.words, d.before a0 Z = true) {kI : Nat} (wi : (Jvm.Cond.instantiable "java/lang/String" kI).before a0 Z = true) {R : Room} {h : Heap} {Ts : TsT} {Li : LiT} {x b : Addr} {Wd : Nat} {k : ClassId} {zn z : Int32} {cs : List Int32} {dv v0 c0 : Value}
    (E : Exa Z h x "java/lang/String") (V : Fld Z h x "java/lang/String" "value" "[B" v0) (C : Fld Z h x "java/lang/String" "coder" "B" c0) (K : Arv Z h b k .char zn (cs.map Value.int) dv) (S : Sta Z Z.heap "java/lang/String" "COMPACT_STRINGS" "Z" (.int z)) (hz : ¬ z = 0) (hlen : zn.toNatClampNeg = cs.length) (l0 : 0 < cs.length) (hbig : cs.length ≤ 536870912) (hall : ∀ c ∈ cs, ¬ 255 < c)
    (hfr : 4 ≤ R.frames) (hlo : Wd + 65 ≤ R.locals) (gz : Z.heap.size ≤ x) (E0 : Ext Z.heap h) :
    Pay Z (⟨"java/lang/String", "<init>", "([C)V"⟩ : MethodName) R 3 Wd [.ref x, .ref b] h Ts Li 1 cs.length (fun y => y.base = x)
      (fun v h' Ts' Li' => (v = none ∧ Ts' = Ts ∧ Li' = Li) ∧ ∃ t, h.size ≤ t ∧ Exa Z h' x "java/lang/String" ∧ Fld Z h' x "java/lang/String" "value" "[B" (.ref t) ∧ Fld Z h' x "java/lang/String" "coder" "B" (.int 0) ∧ (∃ kb, Arv Z h' t kb .byte zn (cs.map fun c => .int c.toInt8.toInt32) (.int 0)) ∧
        ∀ (O n d : String) (w : Value), Fld Z h x O n d w → Jvm.RoadKit.slotOf Z O n d ≠ Jvm.RoadKit.slotOf Z "java/lang/String" "value" "[B" → Jvm.RoadKit.slotOf Z O n d ≠ Jvm.RoadKit.slotOf Z "java/lang/String" "coder" "B" → Fld Z h' x O n d w) := by
  refine Pay.mono (Pay.of_back (P := StrChars.Road.QA Z x zn cs h) (fun l p e below s args hZ => StrChars.Road.backArv hZ hws wi E V C K (S.ext E0) hz hlen l0 hbig hall hfr hlo) (fun v h' L q => ⟨fun y hy => by rw [q.2.1 y hy]; exact gz, fun y hy => Or.inr (q.2.1 y hy), ?_⟩)) (fun v h' Ts' Li' K q => ?_)
  · obtain ⟨-, -, q, -⟩ := q
    refine ⟨q.1, fun a c hc => ?_⟩
    by_cases e : a = x
    · obtain ⟨c', r1, r2, r3, r4⟩ := q.2.2 a c hc
      exact ⟨c', r1, r2, r3, r4, fun i hi => absurd e hi⟩
    · exact ⟨c, q.2.1 a c hc (ninS e nin0), rfl, rfl, rfl, fun _ _ => rfl⟩
  · obtain ⟨⟨L, q1, -, -, -, q5, q6, q7, ⟨kb, -, q8⟩, q9⟩, e1, e2⟩ := q
    exact ⟨⟨q1, e1, e2⟩, h.size, Nat.le_refl _, q5, q6, q7, ⟨kb, q8⟩, q9⟩

/-- what is known of the constant "": nobody has loaded it, or it is known where it lies -/
def LE (Z : State) (h : Heap) (Ts : TsT) (Li : LiT) (os : List String) : Prop := ∃ Tl, Ts = some Tl ∧ (∀ t ∈ Tl, t ∈ "" :: os) ∧ ("" ∉ Tl ∨ ∃ a b, ("java/lang/String", 7, a) ∈ Li ∧ Fld Z h a "java/lang/String" "coder" "B" (.int 0) ∧ Fld Z h a "java/lang/String" "value" "[B" (.ref b))
theorem LE.kq {Z : State} {h h' : Heap} {Ts : TsT} {Li : LiT} {os : List String} (L : LE Z h Ts Li os) (K : Kq h h' noW) : LE Z h' Ts Li os := by
  obtain ⟨Tl, e, q, r⟩ := L
  exact ⟨Tl, e, q, r.imp id fun ⟨a, b, i, f1, f2⟩ => ⟨a, b, i, f1.kq K (fun q => q), f2.kq K (fun q => q)⟩⟩
theorem LE.kqx {Z : State} {h h' : Heap} {Ts : TsT} {Li : LiT} {os : List String} {x : Addr} (L : LE Z h Ts Li os) (K : Kq h h' (fun y => y.base = x)) (F : Fld Z h x "java/lang/String" "value" "[B" .null) : LE Z h' Ts Li os := by
  obtain ⟨Tl, e, q, r⟩ := L
  exact ⟨Tl, e, q, r.imp id fun ⟨a, b, i, f1, f2⟩ => ⟨a, b, i, f1.kq K (nwb (Fld.ne f2 F (fun q => nomatch q))), f2.kq K (nwb (Fld.ne f2 F (fun q => nomatch q)))⟩⟩
theorem own_c255 (x : Int32) : ¬ (Int32.toUInt32 (x &&& (255 : Int32))).toUInt16.toUInt32.toInt32 < 0 ∧ ¬ (255 : Int32) < (Int32.toUInt32 (x &&& (255 : Int32))).toUInt16.toUInt32.toInt32 := by
  have t : ∀ k : Fin 256, ¬ ((Int32.ofNat k.val).toUInt32.toUInt16.toUInt32.toInt32) < 0 ∧ ¬ (255 : Int32) < ((Int32.ofNat k.val).toUInt32.toUInt16.toUInt32.toInt32) := by decide +kernel
  have h : (x &&& 255).toBitVec.toNat < 256 := by
    simp only [Int32.toBitVec_and, BitVec.toNat_and]
    exact Nat.lt_succ_of_le Nat.and_le_right
  have e : (x &&& 255) = Int32.ofNat (x &&& 255).toBitVec.toNat := by
    apply Int32.toBitVec_inj.mp
    show _ = BitVec.ofNat 32 _
    rw [BitVec.ofNat_toNat]; simp
  rw [e]
  exact t ⟨_, h⟩
theorem own_nar_rng {x : Int32} (h : ¬ x < 0 ∧ ¬ (255 : Int32) < x) : nar .char x = x := by
  have t : ∀ k : Fin 256, nar .char (Int32.ofNat k.val) = Int32.ofNat k.val := by decide +kernel
  rw [Int32.lt_iff_toInt_lt, Int32.lt_iff_toInt_lt] at h
  have e1 : (0 : Int32).toInt = 0 := rfl
  have e2 : (255 : Int32).toInt = 255 := rfl
  have hk : x = Int32.ofNat x.toInt.toNat := Int32.toInt_inj.mp (by rw [n32_toInt (by omega)]; omega)
  have q := t ⟨x.toInt.toNat, by omega⟩
  rw [hk]; exact q
theorem LE.kqn {Z : State} {h h1 h' : Heap} {Ts : TsT} {Li : LiT} {os : List String} {W : Loc → Prop} (L : LE Z h Ts Li os) (K1 : Kq h h1 noW) (K : Kq h1 h' W) (ne : ∀ y : Loc, y.base < h.size → ¬ W y) : LE Z h' Ts Li os := by
  obtain ⟨Tl, e, q, r⟩ := L
  exact ⟨Tl, e, q, r.imp id fun ⟨a, b, i, f1, f2⟩ => ⟨a, b, i, (f1.kq K1 (fun q => q)).kq K (ne _ f1.lt), (f2.kq K1 (fun q => q)).kq K (ne _ f2.lt)⟩⟩
theorem Kq.both {h h1 h2 : Heap} {W : Loc → Prop} (K1 : Kq h h1 noW) (K2 : Kq h1 h2 W) (q : ∀ y : Loc, y.base < h.size → ¬ W y) : Kq h h2 noW := K1.trans K2 (fun _ q => q) (fun y l w => (q y l w).elim)
set_option maxRecDepth 65536 in
set_option maxHeartbeats 40000000 in
theorem c_canEncC {Z : State} {a0 : Array Value} (hw : ∀ d ∈ tables_1, d.before a0 Z = true) {h : Heap} {Ts : TsT} {Li : LiT} (c : Int32) (h2 : ¬ (255 : Int32) < c) :
    Con Z (⟨"java/lang/StringLatin1", "canEncode", "(C)Z"⟩ : MethodName) jdk_43_method_3_code 1 (some .boolean) ({ frames := 0, cells := 0, slots := 0, locals := 0 } : Room) [(.int c)] h Ts Li (noW) (Pu (some (.int 1)) h Ts Li) := by
  refine Con.of (ws := Fw h noW) (Ls := #[.val (.int c)]) (plainFor_of_name pn0) (fun m => by first | rfl | (simp [entryFrame, mkF, argsToLocals, Value.category]; done)) (fun E0 => ?_)
  refine Walk.iloadN (pc' := 1) d_jdk_43_method_3_code_0 rfl ?_
  refine Walk.sipush (pc' := 4) (255 : Int32) d_jdk_43_method_3_code_1 rfl ?_
  refine Walk.icNo (pc' := 7) d_jdk_43_method_3_code_4 (XT.ii_gt_f h2) ?_
  refine Walk.iconst (pc' := 8) (1 : Int32) d_jdk_43_method_3_code_7 rfl ?_
  refine Walk.goto (pc' := 12) d_jdk_43_method_3_code_8 ?_
  exact Walk.nret d_jdk_43_method_3_code_12 rfl (by simp) ⟨rfl, rfl, rfl, rfl⟩ (fun _ q => q) (Nat.le_of_ble_eq_true rfl) (Nat.le_of_ble_eq_true rfl)
set_option maxRecDepth 65536 in
set_option maxHeartbeats 40000000 in
theorem c_toB {Z : State} {a0 : Array Value} (hw : ∀ d ∈ tables_1, d.before a0 Z = true) {h : Heap} {Ts : TsT} {Li : LiT} (c : Int32) :
    Con Z (⟨"java/lang/StringLatin1", "toBytes", "(C)[B"⟩ : MethodName) jdk_43_method_46_code 1 (some (.array .byte)) ({ frames := 0, cells := 1, slots := 1, locals := 0 } : Room) [(.int c)] h Ts Li (noW) (fun v h' Ts' Li' => (∃ t, v = some (.ref t) ∧ h.size ≤ t) ∧ Ts' = Ts ∧ Li' = Li) := by
  refine Con.of (ws := Fw h noW) (Ls := #[.val (.int c)]) (plainFor_of_name pn0) (fun m => by first | rfl | (simp [entryFrame, mkF, argsToLocals, Value.category]; done)) (fun E0 => ?_)
  refine Walk.iconst (pc' := 1) (1 : Int32) d_jdk_43_method_46_code_0 rfl ?_
  refine Walk.newA (pc' := 3) (aty := .byte) (cap := 1) (wd27 hw) d_jdk_43_method_46_code_1 (by decide) (by decide) (by decide) (by decide) (by decide) (fun h1 x3 g4 g5 g6 K2 A7 R8 => ?_)
  refine Walk.dup (pc' := 4) d_jdk_43_method_46_code_3 rfl ?_
  refine Walk.iconst (pc' := 5) (0 : Int32) d_jdk_43_method_46_code_4 rfl ?_
  refine Walk.iloadN (pc' := 6) d_jdk_43_method_46_code_5 rfl ?_
  refine Walk.i2b (pc' := 7) d_jdk_43_method_46_code_6 ?_
  refine Walk.bastore (pc' := 8) (i := 0) A7 d_jdk_43_method_46_code_7 (by decide) rfl (by decide) g6 (Fw.fresh g5) (fun h9 K10 A11 Wr12 => ?_)
  exact Walk.aret d_jdk_43_method_46_code_8 rfl rfl rfl ⟨⟨_, rfl, g4⟩, rfl, rfl⟩ (fun _ q => q) (Nat.le_of_ble_eq_true rfl) (Nat.le_of_ble_eq_true rfl)
set_option maxRecDepth 65536 in
set_option maxHeartbeats 40000000 in
theorem c_strBB {Z : State} {a0 : Array Value} (hw : ∀ d ∈ tables_1, d.before a0 Z = true) {h : Heap} {Ts : TsT} {Li : LiT} (x b : Addr) (v0 c0 : Value) (E1 : Exa Z h x "java/lang/String") (F1 : Fld Z h x "java/lang/String" "coder" "B" c0) (F2 : Fld Z h x "java/lang/String" "value" "[B" v0) (gz : Z.heap.size ≤ x) :
    Con Z (⟨"java/lang/String", "<init>", "([BB)V"⟩ : MethodName) jdk_42_method_151_code 3 none ({ frames := 1, cells := 0, slots := 0, locals := 12 } : Room) [(.ref x), (.ref b), (.int (0 : Int32))] h Ts Li (fun y => y.base = x) (fun v h' Ts' Li' => v = none ∧ Ts' = Ts ∧ Li' = Li) := by
  refine Con.of (ws := Fw h fun y => y.base = x) (Ls := #[.val (.ref x), .val (.ref b), .val (.int (0 : Int32))]) (plainFor_of_name pn1) (fun m => by first | rfl | (simp [entryFrame, mkF, argsToLocals, Value.category]; done)) (fun E0 => ?_)
  refine Walk.aloadN (pc' := 1) d_jdk_42_method_151_code_0 rfl rfl ?_
  refine Walk.initO (pc' := 4) (wd23 hw) (wd24 hw) (wd25 hw) d_jdk_42_method_151_code_1 rfl (Wd := 0) (Nat.le_of_eq rfl) (by decide) (by decide) ?_
  refine Walk.aloadN (pc' := 5) d_jdk_42_method_151_code_4 rfl rfl ?_
  refine Walk.aloadN (pc' := 6) d_jdk_42_method_151_code_5 rfl rfl ?_
  refine Walk.putF (pc' := 9) (host := "") (Or.inl (wd32 hw)) Via.refl F2 E1 (Or.inr ⟨(wd28 hw), rfl, rfl⟩) (wd13 hw) (ty := (.array .byte)) (by decide) rfl rfl d_jdk_42_method_151_code_6 gz (Fw.old rfl) (fun h13 K14 F15 => ?_)
  refine Walk.aloadN (pc' := 10) d_jdk_42_method_151_code_9 rfl rfl ?_
  refine Walk.iloadN (pc' := 11) d_jdk_42_method_151_code_10 rfl ?_
  refine Walk.putF (pc' := 14) (host := "") (Or.inl (wd33 hw)) Via.refl (F1.kq K14 (nws (slot_ne (a0 := a0) (Or.inr (wd29 hw)) (Or.inr (wd28 hw)) (by decide) (t := .byte) (by decide) (t' := (.array .byte)) (by decide)))) (E1.kq K14) (Or.inr ⟨(wd29 hw), rfl, rfl⟩) (wd13 hw) (ty := .byte) (by decide) rfl rfl d_jdk_42_method_151_code_11 gz (Fw.old rfl) (fun h16 K17 F18 => ?_)
  exact Walk.ret d_jdk_42_method_151_code_14 rfl ⟨rfl, rfl, rfl⟩ (fun _ q => q) (Nat.le_of_ble_eq_true rfl) (Nat.le_of_ble_eq_true rfl)
set_option maxRecDepth 65536 in
set_option maxHeartbeats 40000000 in
theorem c_valC {Z : State} {a0 : Array Value} (hw : ∀ d ∈ tables_1, d.before a0 Z = true) {h : Heap} {Ts : TsT} {Li : LiT} (c : Int32) (h2 : ¬ (255 : Int32) < c) (z : Int32) (hz : ¬ z = 0) (O2 : Sta Z Z.heap "java/lang/String" "COMPACT_STRINGS" "Z" (.int z)) :
    Con Z (⟨"java/lang/String", "valueOf", "(C)Ljava/lang/String;"⟩ : MethodName) jdk_42_method_139_code 1 (some (.object "java/lang/String")) ({ frames := 2, cells := 2, slots := 5, locals := 27 } : Room) [(.int c)] h Ts Li (noW) (fun v h' Ts' Li' => (∃ x, v = some (.ref x) ∧ Exa Z h' x "java/lang/String") ∧ Ts' = Ts ∧ Li' = Li) := by
  refine Con.of (ws := Fw h noW) (Ls := #[.val (.int c)]) (plainFor_of_name pn1) (fun m => by first | rfl | (simp [entryFrame, mkF, argsToLocals, Value.category]; done)) (fun E0 => ?_)
  refine Walk.getS (pc' := 3) (wd123 hw) Via.refl O2 d_jdk_42_method_139_code_0 ?_
  refine Walk.ifNo (pc' := 6) d_jdk_42_method_139_code_3 (XT.i0_eq_f hz) ?_
  refine Walk.iloadN (pc' := 7) d_jdk_42_method_139_code_6 rfl ?_
  refine Walk.callS (pc' := 10) (Wd := 0) (as := [(.int c)]) (rest := []) (wd124 hw) (wd125 hw) (wd126 hw) (wd127 hw) ((c_canEncC hw c h2).pay (wd127 hw) (wd126 hw) (by decide) (by decide)) (hlen := lenOf pd0 rfl) (hd := d_jdk_42_method_139_code_7) (hst := rfl) (hW := Nat.le_of_eq rfl) (hsz := rfl) (hc1 := Nat.le_of_ble_eq_true rfl) (hl1 := Nat.le_of_ble_eq_true rfl) (hv := Fw.upN) (kk := fun v19 h23 Ts20 Li21 q22 K24 => ?_)
  obtain ⟨rfl, rfl, rfl, rfl⟩ := q22
  show Walk _ _ _ _ _ _ _ _ _ _ _ _ _ _ 0 0 10 _ [(.int (1 : Int32))]
  refine Walk.ifNo (pc' := 13) d_jdk_42_method_139_code_10 (XT.i0_eq_f (by decide)) ?_
  refine Walk.newO (pc' := 16) (wd128 hw) (wd13 hw) (wd14 hw) d_jdk_42_method_139_code_13 (by decide) (by decide) (fun h25 x27 g28 g29 g30 K26 E31 D32 => ?_)
  have F33 : Fld Z h25 x27 "java/lang/String" "value" "[B" .null := D32 (Or.inr (wd28 hw)) (ty := (.array .byte)) (by decide)
  have F34 : Fld Z h25 x27 "java/lang/String" "coder" "B" (.int (0 : Int32)) := D32 (Or.inr (wd29 hw)) (ty := .byte) (by decide)
  refine Walk.dup (pc' := 17) d_jdk_42_method_139_code_16 rfl ?_
  refine Walk.iloadN (pc' := 18) d_jdk_42_method_139_code_17 rfl ?_
  refine Walk.callS (pc' := 21) (Wd := 2) (as := [(.int c)]) (rest := [(.ref x27), (.ref x27)]) (wd129 hw) (wd130 hw) (wd126 hw) (wd131 hw) ((c_toB hw c).pay (wd131 hw) (wd126 hw) (by decide) (by decide)) (hlen := lenOf pd1 rfl) (hd := d_jdk_42_method_139_code_18) (hst := rfl) (hW := Nat.le_of_eq rfl) (hsz := rfl) (hc1 := Nat.le_of_ble_eq_true rfl) (hl1 := Nat.le_of_ble_eq_true rfl) (hv := Fw.upN) (kk := fun v35 h39 Ts36 Li37 q38 K40 => ?_)
  obtain ⟨⟨t, rfl, gt⟩, rfl, rfl⟩ := q38
  show Walk _ _ _ _ _ _ _ _ _ _ _ _ _ _ 2 5 21 _ [(.ref t), (.ref x27), (.ref x27)]
  refine Walk.iconst (pc' := 22) (0 : Int32) d_jdk_42_method_139_code_21 rfl ?_
  refine Walk.callI (pc' := 25) (a := x27) (Wd := 1) (as := [(.ref t), (.int (0 : Int32))]) (rest := [(.ref x27)]) (wd132 hw) (wd133 hw) (wd134 hw) ((c_strBB hw x27 t _ _ (E31.kq K40) (F34.kq K40 (fun q => q)) (F33.kq K40 (fun q => q)) g30).pay (wd134 hw) (wd14 hw) (by decide) (by decide)) (hlen := lenOf pd2 rfl) (hd := d_jdk_42_method_139_code_22) (hst := rfl) (hW := Nat.le_of_eq rfl) (hsz := rfl) (hc1 := Nat.le_of_ble_eq_true rfl) (hl1 := Nat.le_of_ble_eq_true rfl) (hv := (Fw.up (fun y q => Or.inl (q ▸ g29)))) (kk := fun v41 h45 Ts42 Li43 q44 K46 => ?_)
  obtain ⟨rfl, rfl, rfl⟩ := q44
  show Walk _ _ _ _ _ _ _ _ _ _ _ _ _ _ 2 5 25 _ [(.ref x27)]
  exact Walk.aret d_jdk_42_method_139_code_25 rfl rfl rfl ⟨⟨_, rfl, ((E31.kq K40).kq K46)⟩, rfl, rfl⟩ (fun _ q => q) (Nat.le_of_ble_eq_true rfl) (Nat.le_of_ble_eq_true rfl)
set_option maxRecDepth 65536 in
set_option maxHeartbeats 40000000 in
theorem c_emp4 {Z : State} {a0 : Array Value} (hw : ∀ d ∈ tables_1, d.before a0 Z = true) {h : Heap} {Ts : TsT} {Li : LiT} (x b : Addr) (c0 : Value) (E1 : Exa Z h x "java/lang/String") (F1 : Fld Z h x "java/lang/String" "coder" "B" c0) (F2 : Fld Z h x "java/lang/String" "value" "[B" .null) (gz : Z.heap.size ≤ x) (os : List String) (hcw : Jvm.Lit.compactW.before a0 Z = true) (hL : LE Z h Ts Li os) (hh : Jvm.Lit.constHeld Z "java/lang/String" 7) :
    Con Z (⟨"java/lang/String", "<init>", "([CIILjava/lang/Void;)V"⟩ : MethodName) jdk_42_method_149_code 6 none ({ frames := 1, cells := 2, slots := 4, locals := 12 } : Room) [(.ref x), (.ref b), (.int (0 : Int32)), (.int (0 : Int32)), .null] h Ts Li (fun y => y.base = x) (fun v h' Ts' Li' => v = none ∧ LE Z h' Ts' Li' os ∧ ∀ q ∈ Li, q ∈ Li') := by
  refine Con.of (ws := Fw h noW) (Ls := #[.val (.ref x), .val (.ref b), .val (.int (0 : Int32)), .val (.int (0 : Int32)), .val .null, .unset]) (plainFor_of_name pn1) (fun m => by first | rfl | (simp [entryFrame, mkF, argsToLocals, Value.category]; done)) (fun E0 => ?_)
  refine Walk.aloadN (pc' := 1) d_jdk_42_method_149_code_0 rfl rfl ?_
  refine Walk.initO (pc' := 4) (wd23 hw) (wd24 hw) (wd25 hw) d_jdk_42_method_149_code_1 rfl (Wd := 0) (Nat.le_of_eq rfl) (by decide) (by decide) ?_
  refine Walk.iloadN (pc' := 5) d_jdk_42_method_149_code_4 rfl ?_
  refine Walk.ifNo (pc' := 8) d_jdk_42_method_149_code_5 (XT.i0_ne_f rfl) ?_
  refine Walk.aloadN (pc' := 9) d_jdk_42_method_149_code_8 rfl rfl ?_
  obtain ⟨Tl, hTs, hq, hc⟩ := hL
  rcases hc with hc | ⟨y, u, hi, G1, G2⟩
  · skip
    refine Walk.ldcNew (pc' := 11) (wd26 hw) (fun d hd => hw d ((by decide +kernel : ∀ d ∈ Bundle.stringAtoms, d ∈ tables_1) d hd)) hh hcw hTs hc (fun y q => q.elim id fun q => q.elim) (vs := []) (z := 0) ⟨by decide, by decide⟩ (by decide) rfl d_jdk_42_method_149_code_9 (n := 0) (by decide) (by decide) (by decide) (by decide) (fun h47 y49 u50 k51 K48 E52 F53 F54 R55 => ?_)
    show Walk _ _ _ _ _ _ _ _ _ _ _ _ _ _ 2 4 11 _ [(.ref y49), (.ref x)]
    have hyx : y49 ≠ x := Fld.ne F54 (F2.kq K48 (fun q => q)) (fun q => nomatch q)
    refine Walk.ws_mono (ws' := Fw h (fun y => y.base = x)) (fun y q => q.imp id fun q => q.elim) ?_
    refine Walk.getF (pc' := 14) (host := "") (Or.inl (wd32 hw)) Via.refl F54 d_jdk_42_method_149_code_11 ?_
    refine Walk.putF (pc' := 17) (host := "") (Or.inl (wd32 hw)) Via.refl (F2.kq K48 (fun q => q)) (E1.kq K48) (Or.inr ⟨(wd28 hw), rfl, rfl⟩) (wd13 hw) (ty := (.array .byte)) (by decide) rfl rfl d_jdk_42_method_149_code_14 gz (Fw.old rfl) (fun h56 K57 F58 => ?_)
    refine Walk.aloadN (pc' := 18) d_jdk_42_method_149_code_17 rfl rfl ?_
    refine Walk.ldcAgain (pc' := 20) (a := y49) (wd26 hw) (List.mem_cons_self ..) d_jdk_42_method_149_code_18 ?_
    refine Walk.getF (pc' := 23) (host := "") (Or.inl (wd33 hw)) Via.refl (F53.kq K57 (nw hyx)) d_jdk_42_method_149_code_20 ?_
    refine Walk.putF (pc' := 26) (host := "") (Or.inl (wd33 hw)) Via.refl ((F1.kq K48 (fun q => q)).kq K57 (nws (slot_ne (a0 := a0) (Or.inr (wd29 hw)) (Or.inr (wd28 hw)) (by decide) (t := .byte) (by decide) (t' := (.array .byte)) (by decide)))) ((E1.kq K48).kq K57) (Or.inr ⟨(wd29 hw), rfl, rfl⟩) (wd13 hw) (ty := .byte) (by decide) rfl rfl d_jdk_42_method_149_code_23 gz (Fw.old rfl) (fun h59 K60 F61 => ?_)
    exact Walk.ret d_jdk_42_method_149_code_26 rfl ⟨rfl, ⟨_, rfl, fun t m => (List.mem_cons.mp m).elim (fun e => e ▸ List.mem_cons_self ..) (hq t), Or.inr ⟨y49, u50, List.mem_cons_self .., ((F53.kq K57 (nw hyx)).kq K60 (nw hyx)), ((F54.kq K57 (nw hyx)).kq K60 (nw hyx))⟩⟩, fun q m => List.mem_cons_of_mem _ m⟩ (fun _ q => q) (Nat.le_of_ble_eq_true rfl) (Nat.le_of_ble_eq_true rfl)
  · skip
    refine Walk.ldcAgain (pc' := 11) (a := y) (wd26 hw) hi d_jdk_42_method_149_code_9 ?_
    have hyx : y ≠ x := Fld.ne G2 F2 (fun q => nomatch q)
    refine Walk.ws_mono (ws' := Fw h (fun y => y.base = x)) (fun y q => q.imp id fun q => q.elim) ?_
    refine Walk.getF (pc' := 14) (host := "") (Or.inl (wd32 hw)) Via.refl G2 d_jdk_42_method_149_code_11 ?_
    refine Walk.putF (pc' := 17) (host := "") (Or.inl (wd32 hw)) Via.refl F2 E1 (Or.inr ⟨(wd28 hw), rfl, rfl⟩) (wd13 hw) (ty := (.array .byte)) (by decide) rfl rfl d_jdk_42_method_149_code_14 gz (Fw.old rfl) (fun h62 K63 F64 => ?_)
    refine Walk.aloadN (pc' := 18) d_jdk_42_method_149_code_17 rfl rfl ?_
    refine Walk.ldcAgain (pc' := 20) (a := y) (wd26 hw) hi d_jdk_42_method_149_code_18 ?_
    refine Walk.getF (pc' := 23) (host := "") (Or.inl (wd33 hw)) Via.refl (G1.kq K63 (nw hyx)) d_jdk_42_method_149_code_20 ?_
    refine Walk.putF (pc' := 26) (host := "") (Or.inl (wd33 hw)) Via.refl (F1.kq K63 (nws (slot_ne (a0 := a0) (Or.inr (wd29 hw)) (Or.inr (wd28 hw)) (by decide) (t := .byte) (by decide) (t' := (.array .byte)) (by decide)))) (E1.kq K63) (Or.inr ⟨(wd29 hw), rfl, rfl⟩) (wd13 hw) (ty := .byte) (by decide) rfl rfl d_jdk_42_method_149_code_23 gz (Fw.old rfl) (fun h65 K66 F67 => ?_)
    exact Walk.ret d_jdk_42_method_149_code_26 rfl ⟨rfl, ⟨Tl, hTs, hq, Or.inr ⟨y, u, hi, ((G1.kq K63 (nw hyx)).kq K66 (nw hyx)), ((G2.kq K63 (nw hyx)).kq K66 (nw hyx))⟩⟩, fun q m => m⟩ (fun _ q => q) (Nat.le_of_ble_eq_true rfl) (Nat.le_of_ble_eq_true rfl)
set_option maxRecDepth 65536 in
set_option maxHeartbeats 40000000 in
theorem c_emp1 {Z : State} {a0 : Array Value} (hw : ∀ d ∈ tables_1, d.before a0 Z = true) {h : Heap} {Ts : TsT} {Li : LiT} (x b : Addr) (c0 : Value) (f : Nat → Value) (E1 : Exa Z h x "java/lang/String") (F1 : Fld Z h x "java/lang/String" "coder" "B" c0) (F2 : Fld Z h x "java/lang/String" "value" "[B" .null) (A1 : Av Z h b .char 0 f) (gz : Z.heap.size ≤ x) (os : List String) (hcw : Jvm.Lit.compactW.before a0 Z = true) (hL : LE Z h Ts Li os) (hh : Jvm.Lit.constHeld Z "java/lang/String" 7) :
    Con Z (⟨"java/lang/String", "<init>", "([C)V"⟩ : MethodName) jdk_42_method_3_code 2 none ({ frames := 2, cells := 2, slots := 4, locals := 29 } : Room) [(.ref x), (.ref b)] h Ts Li (fun y => y.base = x) (fun v h' Ts' Li' => v = none ∧ LE Z h' Ts' Li' os ∧ ∀ q ∈ Li, q ∈ Li') := by
  refine Con.of (ws := Fw h fun y => y.base = x) (Ls := #[.val (.ref x), .val (.ref b)]) (plainFor_of_name pn1) (fun m => by first | rfl | (simp [entryFrame, mkF, argsToLocals, Value.category]; done)) (fun E0 => ?_)
  refine Walk.aloadN (pc' := 1) d_jdk_42_method_3_code_0 rfl rfl ?_
  refine Walk.aloadN (pc' := 2) d_jdk_42_method_3_code_1 rfl rfl ?_
  refine Walk.iconst (pc' := 3) (0 : Int32) d_jdk_42_method_3_code_2 rfl ?_
  refine Walk.aloadN (pc' := 4) d_jdk_42_method_3_code_3 rfl rfl ?_
  refine Walk.alen (pc' := 5) (z := (0 : Int32)) A1 d_jdk_42_method_3_code_4 rfl ?_
  refine Walk.aconstNull (pc' := 6) d_jdk_42_method_3_code_5 ?_
  refine Walk.callI (pc' := 9) (a := x) (Wd := 0) (as := [(.ref b), (.int (0 : Int32)), (.int (0 : Int32)), .null]) (rest := []) (wd19 hw) (wd20 hw) (wd22 hw) ((c_emp4 hw x b c0 E1 F1 F2 gz os hcw hL hh).pay (wd22 hw) (wd14 hw) (by decide) (by decide)) (hlen := lenOf pd3 rfl) (hd := d_jdk_42_method_3_code_6) (hst := rfl) (hW := Nat.le_of_eq rfl) (hsz := rfl) (hc1 := Nat.le_of_ble_eq_true rfl) (hl1 := Nat.le_of_ble_eq_true rfl) (hv := (Fw.up (fun y q => Fw.old q))) (kk := fun v68 h72 Ts69 Li70 q71 K73 => ?_)
  obtain ⟨rfl, e1, e2⟩ := q71
  show Walk _ _ _ _ _ _ _ _ _ _ _ _ _ _ 2 4 9 _ []
  exact Walk.ret d_jdk_42_method_3_code_9 rfl ⟨rfl, e1, e2⟩ (fun _ q => q) (Nat.le_of_ble_eq_true rfl) (Nat.le_of_ble_eq_true rfl)
set_option maxRecDepth 65536 in
set_option maxHeartbeats 40000000 in
theorem c_str {Z : State} {a0 : Array Value} (hw : ∀ d ∈ tables_1, d.before a0 Z = true) {h : Heap} {Ts : TsT} {Li : LiT} (p : Int32) (z : Int32) (hz : ¬ z = 0) (O2 : Sta Z Z.heap "java/lang/String" "COMPACT_STRINGS" "Z" (.int z)) (os : List String) (hcw : Jvm.Lit.compactW.before a0 Z = true) (hL : LE Z h Ts Li os) (hh : Jvm.Lit.constHeld Z "java/lang/String" 7) :
    Con Z (⟨"com/example/discern/discern/UriReferenceWithoutFragmentPinLaw", "str", "(I)Ljava/lang/String;"⟩ : MethodName) method_4_code 5 (some (.object "java/lang/String")) ({ frames := 4, cells := 4, slots := 8, locals := 66 } : Room) [(.int p)] h Ts Li (noW) (fun v h' Ts' Li' => (∃ x, v = some (.ref x) ∧ Exa Z h' x "java/lang/String") ∧ LE Z h' Ts' Li' os ∧ ∀ q ∈ Li, q ∈ Li') := by
  refine Con.of (ws := Fw h noW) (Ls := #[.val (.int p), .unset, .unset, .unset, .unset]) (plainFor_of_name pn2) (fun m => by first | rfl | (simp [entryFrame, mkF, argsToLocals, Value.category]; done)) (fun E0 => ?_)
  have hws : ∀ d ∈ StrChars.Road.words, d.before a0 Z = true := fun d hd => hw d ((by decide +kernel : ∀ d ∈ StrChars.Road.words, d ∈ tables_1) d hd)
  refine Walk.iloadN (pc' := 1) d_method_4_code_0 rfl ?_
  refine Walk.bipush (pc' := 3) (16 : Int32) d_method_4_code_1 rfl ?_
  refine Walk.iushr (pc' := 4) d_method_4_code_3 ?_
  refine Walk.iconst (pc' := 5) (3 : Int32) d_method_4_code_4 rfl ?_
  refine Walk.iand (pc' := 6) d_method_4_code_5 ?_
  refine Walk.istoreN (pc' := 7) (Ls' := #[.val (.int p), .val (.int ((XT.ushr p (16 : Int32)) &&& (3 : Int32))), .unset, .unset, .unset]) d_method_4_code_6 rfl ?_
  refine Walk.iloadN (pc' := 8) d_method_4_code_7 rfl ?_
  refine Walk.sipush (pc' := 11) (255 : Int32) d_method_4_code_8 rfl ?_
  refine Walk.iand (pc' := 12) d_method_4_code_11 ?_
  refine Walk.i2c (pc' := 13) d_method_4_code_12 ?_
  refine Walk.istoreN (pc' := 14) (Ls' := #[.val (.int p), .val (.int ((XT.ushr p (16 : Int32)) &&& (3 : Int32))), .val (.int (Int32.toUInt32 (p &&& (255 : Int32))).toUInt16.toUInt32.toInt32), .unset, .unset]) d_method_4_code_13 rfl ?_
  refine Walk.iloadN (pc' := 15) d_method_4_code_14 rfl ?_
  refine Walk.bipush (pc' := 17) (8 : Int32) d_method_4_code_15 rfl ?_
  refine Walk.iushr (pc' := 18) d_method_4_code_17 ?_
  refine Walk.sipush (pc' := 21) (255 : Int32) d_method_4_code_18 rfl ?_
  refine Walk.iand (pc' := 22) d_method_4_code_21 ?_
  refine Walk.i2c (pc' := 23) d_method_4_code_22 ?_
  refine Walk.istoreN (pc' := 24) (Ls' := #[.val (.int p), .val (.int ((XT.ushr p (16 : Int32)) &&& (3 : Int32))), .val (.int (Int32.toUInt32 (p &&& (255 : Int32))).toUInt16.toUInt32.toInt32), .val (.int (Int32.toUInt32 ((XT.ushr p (8 : Int32)) &&& (255 : Int32))).toUInt16.toUInt32.toInt32), .unset]) d_method_4_code_23 rfl ?_
  refine Walk.iloadN (pc' := 25) d_method_4_code_24 rfl ?_
  by_cases h0 : ((XT.ushr p (16 : Int32)) &&& (3 : Int32)) = 0
  · skip
    refine Walk.ifNo (pc' := 28) d_method_4_code_25 (XT.i0_ne_f h0) ?_
    refine Walk.newO (pc' := 31) (wd12 hw) (wd13 hw) (wd14 hw) d_method_4_code_28 (by decide) (by decide) (fun h74 x76 g77 g78 g79 K75 E80 D81 => ?_)
    have F82 : Fld Z h74 x76 "java/lang/String" "value" "[B" .null := D81 (Or.inr (wd28 hw)) (ty := (.array .byte)) (by decide)
    have F83 : Fld Z h74 x76 "java/lang/String" "coder" "B" (.int (0 : Int32)) := D81 (Or.inr (wd29 hw)) (ty := .byte) (by decide)
    refine Walk.dup (pc' := 32) d_method_4_code_31 rfl ?_
    refine Walk.iconst (pc' := 33) (0 : Int32) d_method_4_code_32 rfl ?_
    refine Walk.newA (pc' := 35) (aty := .char) (cap := 0) (wd15 hw) d_method_4_code_33 (by decide) (by decide) (by decide) (by decide) (by decide) (fun h84 x86 g87 g88 g89 K85 A90 R91 => ?_)
    refine Walk.callI (pc' := 38) (a := x76) (Wd := 1) (as := [(.ref x86)]) (rest := [(.ref x76)]) (wd16 hw) (wd17 hw) (wd18 hw) ((c_emp1 hw x76 x86 _ _ (E80.kq K85) (F83.kq K85 (fun q => q)) (F82.kq K85 (fun q => q)) A90 g79 os hcw ((hL.kq K75).kq K85) hh).pay (wd18 hw) (wd14 hw) (by decide) (by decide)) (hlen := lenOf pd4 rfl) (hd := d_method_4_code_35) (hst := rfl) (hW := Nat.le_of_eq rfl) (hsz := rfl) (hc1 := Nat.le_of_ble_eq_true rfl) (hl1 := Nat.le_of_ble_eq_true rfl) (hv := (Fw.up (fun y q => Or.inl (q ▸ g78)))) (kk := fun v92 h96 Ts93 Li94 q95 K97 => ?_)
    obtain ⟨rfl, e1, e2⟩ := q95
    show Walk _ _ _ _ _ _ _ _ _ _ _ _ _ _ 4 8 38 _ [(.ref x76)]
    exact Walk.aret d_method_4_code_38 rfl rfl rfl ⟨⟨_, rfl, ((E80.kq K85).kq K97)⟩, e1, e2⟩ (fun _ q => q) (Nat.le_of_ble_eq_true rfl) (Nat.le_of_ble_eq_true rfl)
  · skip
    refine Walk.ifYes (pc' := 39) d_method_4_code_25 (XT.i0_ne_t h0) ?_
    refine Walk.iloadN (pc' := 40) d_method_4_code_39 rfl ?_
    refine Walk.iconst (pc' := 41) (1 : Int32) d_method_4_code_40 rfl ?_
    by_cases h1 : ((XT.ushr p (16 : Int32)) &&& (3 : Int32)) = (1 : Int32)
    · skip
      refine Walk.icNo (pc' := 44) d_method_4_code_41 (XT.ii_ne_f h1) ?_
      refine Walk.iloadN (pc' := 45) d_method_4_code_44 rfl ?_
      refine Walk.callS (pc' := 48) (Wd := 0) (as := [(.int (Int32.toUInt32 (p &&& (255 : Int32))).toUInt16.toUInt32.toInt32)]) (rest := []) (wd120 hw) (wd121 hw) (wd14 hw) (wd122 hw) ((c_valC hw _ (own_c255 _).2 z hz O2).pay (wd122 hw) (wd14 hw) (by decide) (by decide)) (hlen := lenOf pd5 rfl) (hd := d_method_4_code_45) (hst := rfl) (hW := Nat.le_of_eq rfl) (hsz := rfl) (hc1 := Nat.le_of_ble_eq_true rfl) (hl1 := Nat.le_of_ble_eq_true rfl) (hv := Fw.upN) (kk := fun v98 h102 Ts99 Li100 q101 K103 => ?_)
      obtain ⟨⟨x, rfl, ex⟩, rfl, rfl⟩ := q101
      show Walk _ _ _ _ _ _ _ _ _ _ _ _ _ _ 2 5 48 _ [(.ref x)]
      exact Walk.aret d_method_4_code_48 rfl rfl rfl ⟨⟨_, rfl, ex⟩, hL.kq K103, fun q m => m⟩ (fun _ q => q) (Nat.le_of_ble_eq_true rfl) (Nat.le_of_ble_eq_true rfl)
    · skip
      refine Walk.icYes (pc' := 49) d_method_4_code_41 (XT.ii_ne_t h1) ?_
      refine Walk.iconst (pc' := 50) (2 : Int32) d_method_4_code_49 rfl ?_
      refine Walk.newA (pc' := 52) (aty := .char) (cap := 2) (wd15 hw) d_method_4_code_50 (by decide) (by decide) (by decide) (by decide) (by decide) (fun h104 x106 g107 g108 g109 K105 A110 R111 => ?_)
      refine Walk.astore (pc' := 54) (Ls' := #[.val (.int p), .val (.int ((XT.ushr p (16 : Int32)) &&& (3 : Int32))), .val (.int (Int32.toUInt32 (p &&& (255 : Int32))).toUInt16.toUInt32.toInt32), .val (.int (Int32.toUInt32 ((XT.ushr p (8 : Int32)) &&& (255 : Int32))).toUInt16.toUInt32.toInt32), .val (.ref x106)]) d_method_4_code_52 rfl rfl ?_
      refine Walk.aload (pc' := 56) d_method_4_code_54 rfl rfl ?_
      refine Walk.iconst (pc' := 57) (0 : Int32) d_method_4_code_56 rfl ?_
      refine Walk.iloadN (pc' := 58) d_method_4_code_57 rfl ?_
      refine Walk.castore (pc' := 59) (i := 0) A110 d_method_4_code_58 (by decide) rfl (by decide) g109 (Fw.fresh g108) (fun h112 K113 A114 Wr115 => ?_)
      refine Walk.aload (pc' := 61) d_method_4_code_59 rfl rfl ?_
      refine Walk.iconst (pc' := 62) (1 : Int32) d_method_4_code_61 rfl ?_
      refine Walk.iloadN (pc' := 63) d_method_4_code_62 rfl ?_
      refine Walk.castore (pc' := 64) (i := 1) A114 d_method_4_code_63 (by decide) rfl (by decide) g109 (Fw.fresh g108) (fun h116 K117 A118 Wr119 => ?_)
      refine Walk.newO (pc' := 67) (wd12 hw) (wd13 hw) (wd14 hw) d_method_4_code_64 (by decide) (by decide) (fun h120 x122 g123 g124 g125 K121 E126 D127 => ?_)
      have F128 : Fld Z h120 x122 "java/lang/String" "value" "[B" .null := D127 (Or.inr (wd28 hw)) (ty := (.array .byte)) (by decide)
      have F129 : Fld Z h120 x122 "java/lang/String" "coder" "B" (.int (0 : Int32)) := D127 (Or.inr (wd29 hw)) (ty := .byte) (by decide)
      refine Walk.dup (pc' := 68) d_method_4_code_67 rfl ?_
      refine Walk.aload (pc' := 70) d_method_4_code_68 rfl rfl ?_
      obtain ⟨kc, ac⟩ := Av.arv (A118.kq K121 (fun _ => (fun q => q))) (z := 2) (by decide) rfl (vs := ([(Int32.toUInt32 (p &&& (255 : Int32))).toUInt16.toUInt32.toInt32, (Int32.toUInt32 ((XT.ushr p (8 : Int32)) &&& (255 : Int32))).toUInt16.toUInt32.toInt32] : List Int32).map Value.int) (d := .int 0) (fun i hi => by match i, hi with | 0, _ => exact congrArg Value.int (own_nar_rng (own_c255 _)).symm | 1, _ => exact congrArg Value.int (own_nar_rng (own_c255 _)).symm) (fun i hi => by match i, hi with | 0, _ => exact fits_nar_char _ | 1, _ => exact fits_nar_char _)
      refine Walk.old fun E9 => ?_
      refine Walk.callI (pc' := 73) (a := x122) (Wd := 1) (as := [(.ref x106)]) (rest := [(.ref x122)]) (wd16 hw) (wd17 hw) (wd18 hw) (own_newStr (Wd := 1) hws (wd13 hw) E126 F128 F129 ac O2 hz rfl (Nat.le_of_ble_eq_true rfl) (Nat.le_of_ble_eq_true rfl) (fun q hq => by simp only [List.mem_cons, List.not_mem_nil, or_false] at hq; rcases hq with rfl | rfl <;> exact (own_c255 _).2) (by decide) (by decide) g125 E9) (hlen := lenOf pd4 rfl) (hd := d_method_4_code_70) (hst := rfl) (hW := Nat.le_of_eq rfl) (hsz := rfl) (hc1 := Nat.le_of_ble_eq_true rfl) (hl1 := Nat.le_of_ble_eq_true rfl) (hv := (Fw.up (fun y q => Or.inl (q ▸ g124)))) (kk := fun v130 h134 Ts131 Li132 q133 K135 => ?_)
      obtain ⟨⟨rfl, rfl, rfl⟩, t, gt, e1, e3, e2, -, -⟩ := q133
      show Walk _ _ _ _ _ _ _ _ _ _ _ _ _ _ 3 8 73 _ [(.ref x122)]
      exact Walk.aret d_method_4_code_73 rfl rfl rfl ⟨⟨_, rfl, e1⟩, ((hL.kq (Kq.both (Kq.both K105 K113 (fun y l e => by rw [e] at l; exact absurd l (Nat.not_lt.mpr g107))) K117 (fun y l e => by rw [e] at l; exact absurd l (Nat.not_lt.mpr g107)))).kq K121).kqx K135 F128, fun q m => m⟩ (fun _ q => q) (Nat.le_of_ble_eq_true rfl) (Nat.le_of_ble_eq_true rfl)
set_option maxRecDepth 65536 in
set_option maxHeartbeats 40000000 in
theorem c_rnn {Z : State} {a0 : Array Value} (hw : ∀ d ∈ tables_1, d.before a0 Z = true) {h : Heap} {Ts : TsT} {Li : LiT} (x : Addr) :
    Con Z (⟨"java/util/Objects", "requireNonNull", "(Ljava/lang/Object;)Ljava/lang/Object;"⟩ : MethodName) jdk_31_method_10_code 1 (some (.object "java/lang/Object")) ({ frames := 0, cells := 0, slots := 0, locals := 0 } : Room) [(.ref x)] h Ts Li (noW) (Pu (some (.ref x)) h Ts Li) := by
  refine Con.of (ws := Fw h noW) (Ls := #[.val (.ref x)]) (plainFor_of_name pn3) (fun m => by first | rfl | (simp [entryFrame, mkF, argsToLocals, Value.category]; done)) (fun E0 => ?_)
  refine Walk.aloadN (pc' := 1) d_jdk_31_method_10_code_0 rfl rfl ?_
  refine Walk.nonnullYes (pc' := 12) d_jdk_31_method_10_code_1 rfl (fun q => nomatch q) ?_
  refine Walk.aloadN (pc' := 13) d_jdk_31_method_10_code_12 rfl rfl ?_
  exact Walk.aret d_jdk_31_method_10_code_13 rfl rfl rfl ⟨rfl, rfl, rfl, rfl⟩ (fun _ q => q) (Nat.le_of_ble_eq_true rfl) (Nat.le_of_ble_eq_true rfl)
set_option maxRecDepth 65536 in
set_option maxHeartbeats 40000000 in
theorem c_oinit {Z : State} {a0 : Array Value} (hw : ∀ d ∈ tables_1, d.before a0 Z = true) {h : Heap} {Ts : TsT} {Li : LiT} (x b : Addr) (v0 : Value) (E1 : Exa Z h x "java/util/Optional") (F1 : Fld Z h x "java/util/Optional" "value" "Ljava/lang/Object;" v0) (gz : Z.heap.size ≤ x) :
    Con Z (⟨"java/util/Optional", "<init>", "(Ljava/lang/Object;)V"⟩ : MethodName) jdk_32_method_2_code 2 none ({ frames := 1, cells := 0, slots := 0, locals := 12 } : Room) [(.ref x), (.ref b)] h Ts Li (fun y => y.base = x) (fun v h' Ts' Li' => v = none ∧ Ts' = Ts ∧ Li' = Li) := by
  refine Con.of (ws := Fw h fun y => y.base = x) (Ls := #[.val (.ref x), .val (.ref b)]) (plainFor_of_name pn4) (fun m => by first | rfl | (simp [entryFrame, mkF, argsToLocals, Value.category]; done)) (fun E0 => ?_)
  refine Walk.aloadN (pc' := 1) d_jdk_32_method_2_code_0 rfl rfl ?_
  refine Walk.initO (pc' := 4) (wd119 hw) (wd24 hw) (wd25 hw) d_jdk_32_method_2_code_1 rfl (Wd := 0) (Nat.le_of_eq rfl) (by decide) (by decide) ?_
  refine Walk.aloadN (pc' := 5) d_jdk_32_method_2_code_4 rfl rfl ?_
  refine Walk.aloadN (pc' := 6) d_jdk_32_method_2_code_5 rfl rfl ?_
  refine Walk.putF (pc' := 9) (host := "") (Or.inl (wd104 hw)) Via.refl F1 E1 (Or.inr ⟨(wd105 hw), rfl, rfl⟩) (wd110 hw) (ty := (.object "java/lang/Object")) (by decide) rfl rfl d_jdk_32_method_2_code_6 gz (Fw.old rfl) (fun h136 K137 F138 => ?_)
  exact Walk.ret d_jdk_32_method_2_code_9 rfl ⟨rfl, rfl, rfl⟩ (fun _ q => q) (Nat.le_of_ble_eq_true rfl) (Nat.le_of_ble_eq_true rfl)
set_option maxRecDepth 65536 in
set_option maxHeartbeats 40000000 in
theorem c_of {Z : State} {a0 : Array Value} (hw : ∀ d ∈ tables_1, d.before a0 Z = true) {h : Heap} {Ts : TsT} {Li : LiT} (b : Addr) :
    Con Z (⟨"java/util/Optional", "of", "(Ljava/lang/Object;)Ljava/util/Optional;"⟩ : MethodName) jdk_32_method_3_code 1 (some (.object "java/util/Optional")) ({ frames := 2, cells := 1, slots := 1, locals := 26 } : Room) [(.ref b)] h Ts Li (noW) (fun v h' Ts' Li' => (∃ x, v = some (.ref x) ∧ Exa Z h' x "java/util/Optional" ∧ Kq h h' noW) ∧ Ts' = Ts ∧ Li' = Li) := by
  refine Con.of (ws := Fw h noW) (Ls := #[.val (.ref b)]) (plainFor_of_name pn4) (fun m => by first | rfl | (simp [entryFrame, mkF, argsToLocals, Value.category]; done)) (fun E0 => ?_)
  refine Walk.newO (pc' := 3) (wd109 hw) (wd110 hw) (wd6 hw) d_jdk_32_method_3_code_0 (by decide) (by decide) (fun h139 x141 g142 g143 g144 K140 E145 D146 => ?_)
  have F147 : Fld Z h139 x141 "java/util/Optional" "value" "Ljava/lang/Object;" .null := D146 (Or.inr (wd105 hw)) (ty := (.object "java/lang/Object")) (by decide)
  refine Walk.dup (pc' := 4) d_jdk_32_method_3_code_3 rfl ?_
  refine Walk.aloadN (pc' := 5) d_jdk_32_method_3_code_4 rfl rfl ?_
  refine Walk.callS (pc' := 8) (Wd := 2) (as := [(.ref b)]) (rest := [(.ref x141), (.ref x141)]) (wd111 hw) (wd112 hw) (wd113 hw) (wd114 hw) ((c_rnn hw b).pay (wd114 hw) (wd113 hw) (by decide) (by decide)) (hlen := lenOf pd6 rfl) (hd := d_jdk_32_method_3_code_5) (hst := rfl) (hW := Nat.le_of_eq rfl) (hsz := rfl) (hc1 := Nat.le_of_ble_eq_true rfl) (hl1 := Nat.le_of_ble_eq_true rfl) (hv := Fw.upN) (kk := fun v148 h152 Ts149 Li150 q151 K153 => ?_)
  obtain ⟨rfl, rfl, rfl, rfl⟩ := q151
  show Walk _ _ _ _ _ _ _ _ _ _ _ _ _ _ 1 1 8 _ [(.ref b), (.ref x141), (.ref x141)]
  refine Walk.callI (pc' := 11) (a := x141) (Wd := 1) (as := [(.ref b)]) (rest := [(.ref x141)]) (wd115 hw) (wd116 hw) (wd118 hw) ((c_oinit hw x141 b _ E145 F147 g144).pay (wd118 hw) (wd6 hw) (by decide) (by decide)) (hlen := lenOf pd7 rfl) (hd := d_jdk_32_method_3_code_8) (hst := rfl) (hW := Nat.le_of_eq rfl) (hsz := rfl) (hc1 := Nat.le_of_ble_eq_true rfl) (hl1 := Nat.le_of_ble_eq_true rfl) (hv := (Fw.up (fun y q => Or.inl (q ▸ g143)))) (kk := fun v154 h158 Ts155 Li156 q157 K159 => ?_)
  obtain ⟨rfl, rfl, rfl⟩ := q157
  show Walk _ _ _ _ _ _ _ _ _ _ _ _ _ _ 1 1 11 _ [(.ref x141)]
  exact Walk.aret d_jdk_32_method_3_code_11 rfl rfl rfl ⟨⟨_, rfl, (E145.kq K159), Kq.both K140 K159 (fun y l e => absurd l (Nat.not_lt.mpr (e ▸ g142)))⟩, rfl, rfl⟩ (fun _ q => q) (Nat.le_of_ble_eq_true rfl) (Nat.le_of_ble_eq_true rfl)
set_option maxRecDepth 65536 in
set_option maxHeartbeats 40000000 in
theorem c_empty {Z : State} {a0 : Array Value} (hw : ∀ d ∈ tables_1, d.before a0 Z = true) {h : Heap} {Ts : TsT} {Li : LiT} (e0 : Addr) (S1 : Sta Z Z.heap "java/util/Optional" "EMPTY" "Ljava/util/Optional;" (.ref e0)) (X1 : Exa Z Z.heap e0 "java/util/Optional") :
    Con Z (⟨"java/util/Optional", "empty", "()Ljava/util/Optional;"⟩ : MethodName) jdk_32_method_1_code 1 (some (.object "java/util/Optional")) ({ frames := 0, cells := 0, slots := 0, locals := 0 } : Room) [] h Ts Li (noW) (Pu (some (.ref e0)) h Ts Li) := by
  refine Con.of (ws := Fw h noW) (Ls := #[.unset]) (plainFor_of_name pn4) (fun m => by first | rfl | (simp [entryFrame, mkF, argsToLocals, Value.category]; done)) (fun E0 => ?_)
  refine Walk.getS (pc' := 3) (wd8 hw) Via.refl S1 d_jdk_32_method_1_code_0 ?_
  refine Walk.astoreN (pc' := 4) (Ls' := #[.val (.ref e0)]) d_jdk_32_method_1_code_3 rfl rfl ?_
  refine Walk.aloadN (pc' := 5) d_jdk_32_method_1_code_4 rfl rfl ?_
  exact Walk.aret d_jdk_32_method_1_code_5 rfl rfl rfl ⟨rfl, rfl, rfl, rfl⟩ (fun _ q => q) (Nat.le_of_ble_eq_true rfl) (Nat.le_of_ble_eq_true rfl)
set_option maxRecDepth 65536 in
set_option maxHeartbeats 40000000 in
theorem c_opt {Z : State} {a0 : Array Value} (hw : ∀ d ∈ tables_1, d.before a0 Z = true) {h : Heap} {Ts : TsT} {Li : LiT} (b p : Int32) (z : Int32) (hz : ¬ z = 0) (O2 : Sta Z Z.heap "java/lang/String" "COMPACT_STRINGS" "Z" (.int z)) (os : List String) (hcw : Jvm.Lit.compactW.before a0 Z = true) (hL : LE Z h Ts Li os) (hh : Jvm.Lit.constHeld Z "java/lang/String" 7) (e0 : Addr) (S1 : Sta Z Z.heap "java/util/Optional" "EMPTY" "Ljava/util/Optional;" (.ref e0)) (X1 : Exa Z Z.heap e0 "java/util/Optional") :
    Con Z (⟨"com/example/discern/discern/UriReferenceWithoutFragmentPinLaw", "opt", "(ZI)Ljava/util/Optional;"⟩ : MethodName) method_3_code 2 (some (.object "java/util/Optional")) ({ frames := 5, cells := 5, slots := 9, locals := 82 } : Room) [(.int b), (.int p)] h Ts Li (noW) (fun v h' Ts' Li' => (∃ x, v = some (.ref x) ∧ Exa Z h' x "java/util/Optional") ∧ LE Z h' Ts' Li' os ∧ ∀ q ∈ Li, q ∈ Li') := by
  refine Con.of (ws := Fw h noW) (Ls := #[.val (.int b), .val (.int p)]) (plainFor_of_name pn2) (fun m => by first | rfl | (simp [entryFrame, mkF, argsToLocals, Value.category]; done)) (fun E0 => ?_)
  refine Walk.iloadN (pc' := 1) d_method_3_code_0 rfl ?_
  by_cases hb : b = 0
  · skip
    refine Walk.ifYes (pc' := 12) d_method_3_code_1 (XT.i0_eq_t hb) ?_
    refine Walk.callS (pc' := 15) (Wd := 0) (as := []) (rest := []) (wd4 hw) (wd5 hw) (wd6 hw) (wd7 hw) ((c_empty hw e0 S1 X1).pay (wd7 hw) (wd6 hw) (by decide) (by decide)) (hlen := lenOf pd8 rfl) (hd := d_method_3_code_12) (hst := rfl) (hW := Nat.le_of_eq rfl) (hsz := rfl) (hc1 := Nat.le_of_ble_eq_true rfl) (hl1 := Nat.le_of_ble_eq_true rfl) (hv := Fw.upN) (kk := fun v160 h164 Ts161 Li162 q163 K165 => ?_)
    obtain ⟨rfl, rfl, rfl, rfl⟩ := q163
    show Walk _ _ _ _ _ _ _ _ _ _ _ _ _ _ 0 0 15 _ [(.ref e0)]
    exact Walk.aret d_method_3_code_15 rfl rfl rfl ⟨⟨_, rfl, X1.ext E0⟩, hL, fun q m => m⟩ (fun _ q => q) (Nat.le_of_ble_eq_true rfl) (Nat.le_of_ble_eq_true rfl)
  · skip
    refine Walk.ifNo (pc' := 4) d_method_3_code_1 (XT.i0_eq_f hb) ?_
    refine Walk.iloadN (pc' := 5) d_method_3_code_4 rfl ?_
    refine Walk.callS (pc' := 8) (Wd := 0) (as := [(.int p)]) (rest := []) (wd9 hw) (wd10 hw) (wd2 hw) (wd11 hw) ((c_str hw p z hz O2 os hcw hL hh).pay (wd11 hw) (wd2 hw) (by decide) (by decide)) (hlen := lenOf pd9 rfl) (hd := d_method_3_code_5) (hst := rfl) (hW := Nat.le_of_eq rfl) (hsz := rfl) (hc1 := Nat.le_of_ble_eq_true rfl) (hl1 := Nat.le_of_ble_eq_true rfl) (hv := Fw.upN) (kk := fun v166 h170 Ts167 Li168 q169 K171 => ?_)
    obtain ⟨⟨s, rfl, es⟩, l1, l2⟩ := q169
    show Walk _ _ _ _ _ _ _ _ _ _ _ _ _ _ 4 8 8 _ [(.ref s)]
    refine Walk.callS (pc' := 11) (Wd := 0) (as := [(.ref s)]) (rest := []) (wd106 hw) (wd107 hw) (wd6 hw) (wd108 hw) ((c_of hw s).pay (wd108 hw) (wd6 hw) (by decide) (by decide)) (hlen := lenOf pd10 rfl) (hd := d_method_3_code_8) (hst := rfl) (hW := Nat.le_of_eq rfl) (hsz := rfl) (hc1 := Nat.le_of_ble_eq_true rfl) (hl1 := Nat.le_of_ble_eq_true rfl) (hv := Fw.upN) (kk := fun v172 h176 Ts173 Li174 q175 K177 => ?_)
    obtain ⟨⟨x, rfl, ex, kx⟩, rfl, rfl⟩ := q175
    show Walk _ _ _ _ _ _ _ _ _ _ _ _ _ _ 5 9 11 _ [(.ref x)]
    exact Walk.aret d_method_3_code_11 rfl rfl rfl ⟨⟨_, rfl, ex⟩, l1.kq kx, l2⟩ (fun _ q => q) (Nat.le_of_ble_eq_true rfl) (Nat.le_of_ble_eq_true rfl)
set_option maxRecDepth 65536 in
set_option maxHeartbeats 40000000 in
theorem c_rec {Z : State} {a0 : Array Value} (hw : ∀ d ∈ tables_1, d.before a0 Z = true) {h : Heap} {Ts : TsT} {Li : LiT} (x : Addr) :
    Con Z (⟨"java/lang/Record", "<init>", "()V"⟩ : MethodName) jdk_30_method_1_code 1 none ({ frames := 1, cells := 0, slots := 0, locals := 12 } : Room) [(.ref x)] h Ts Li (noW) (Pu (none) h Ts Li) := by
  refine Con.of (ws := Fw h noW) (Ls := #[.val (.ref x)]) (plainFor_of_name pn5) (fun m => by first | rfl | (simp [entryFrame, mkF, argsToLocals, Value.category]; done)) (fun E0 => ?_)
  refine Walk.aloadN (pc' := 1) d_jdk_30_method_1_code_0 rfl rfl ?_
  refine Walk.initO (pc' := 4) (wd45 hw) (wd24 hw) (wd25 hw) d_jdk_30_method_1_code_1 rfl (Wd := 0) (Nat.le_of_eq rfl) (by decide) (by decide) ?_
  exact Walk.ret d_jdk_30_method_1_code_4 rfl ⟨rfl, rfl, rfl, rfl⟩ (fun _ q => q) (Nat.le_of_ble_eq_true rfl) (Nat.le_of_ble_eq_true rfl)
set_option maxRecDepth 65536 in
set_option maxHeartbeats 40000000 in
theorem c_uinit {Z : State} {a0 : Array Value} (hw : ∀ d ∈ tables_1, d.before a0 Z = true) {h : Heap} {Ts : TsT} {Li : LiT} (x : Addr) (v0 v1 v2 v3 v4 : Addr) (E1 : Exa Z h x "com/example/discern/discern/UriReference") (F0 : Fld Z h x "com/example/discern/discern/UriReference" "scheme" "Ljava/util/Optional;" .null) (F1 : Fld Z h x "com/example/discern/discern/UriReference" "authority" "Ljava/util/Optional;" .null) (F2 : Fld Z h x "com/example/discern/discern/UriReference" "path" "Ljava/lang/String;" .null) (F3 : Fld Z h x "com/example/discern/discern/UriReference" "query" "Ljava/util/Optional;" .null) (F4 : Fld Z h x "com/example/discern/discern/UriReference" "fragment" "Ljava/util/Optional;" .null) (gz : Z.heap.size ≤ x) :
    Con Z (⟨"com/example/discern/discern/UriReference", "<init>", "(Ljava/util/Optional;Ljava/util/Optional;Ljava/lang/String;Ljava/util/Optional;Ljava/util/Optional;)V"⟩ : MethodName) prog_53_method_1_code 6 none ({ frames := 2, cells := 0, slots := 0, locals := 24 } : Room) [(.ref x), (.ref v0), (.ref v1), (.ref v2), (.ref v3), (.ref v4)] h Ts Li (fun y => y.base = x) (fun v h' Ts' Li' => (v = none ∧ Ts' = Ts ∧ Li' = Li) ∧ Exa Z h' x "com/example/discern/discern/UriReference" ∧ Fld Z h' x "com/example/discern/discern/UriReference" "scheme" "Ljava/util/Optional;" (.ref v0) ∧ Fld Z h' x "com/example/discern/discern/UriReference" "authority" "Ljava/util/Optional;" (.ref v1) ∧ Fld Z h' x "com/example/discern/discern/UriReference" "path" "Ljava/lang/String;" (.ref v2) ∧ Fld Z h' x "com/example/discern/discern/UriReference" "query" "Ljava/util/Optional;" (.ref v3) ∧ Fld Z h' x "com/example/discern/discern/UriReference" "fragment" "Ljava/util/Optional;" (.ref v4)) := by
  refine Con.of (ws := Fw h fun y => y.base = x) (Ls := #[.val (.ref x), .val (.ref v0), .val (.ref v1), .val (.ref v2), .val (.ref v3), .val (.ref v4)]) (plainFor_of_name pn6) (fun m => by first | rfl | (simp [entryFrame, mkF, argsToLocals, Value.category]; done)) (fun E0 => ?_)
  refine Walk.aloadN (pc' := 1) d_prog_53_method_1_code_0 rfl rfl ?_
  refine Walk.callI (pc' := 4) (a := x) (Wd := 0) (as := []) (rest := []) (wd40 hw) (wd41 hw) (wd44 hw) ((c_rec hw x).pay (wd44 hw) (wd43 hw) (by decide) (by decide)) (hlen := lenOf pd11 rfl) (hd := d_prog_53_method_1_code_1) (hst := rfl) (hW := Nat.le_of_eq rfl) (hsz := rfl) (hc1 := Nat.le_of_ble_eq_true rfl) (hl1 := Nat.le_of_ble_eq_true rfl) (hv := Fw.upN) (kk := fun v178 h182 Ts179 Li180 q181 K183 => ?_)
  obtain ⟨rfl, rfl, rfl, rfl⟩ := q181
  show Walk _ _ _ _ _ _ _ _ _ _ _ _ _ _ 0 0 4 _ []
  refine Walk.aloadN (pc' := 5) d_prog_53_method_1_code_4 rfl rfl ?_
  refine Walk.aloadN (pc' := 6) d_prog_53_method_1_code_5 rfl rfl ?_
  refine Walk.putF (pc' := 9) (host := "") (Or.inl (wd46 hw)) Via.refl F0 E1 (Or.inr ⟨(wd47 hw), rfl, rfl⟩) (wd35 hw) (ty := (.object "java/util/Optional")) (by decide) rfl rfl d_prog_53_method_1_code_6 gz (Fw.old rfl) (fun h184 K185 F186 => ?_)
  refine Walk.aloadN (pc' := 10) d_prog_53_method_1_code_9 rfl rfl ?_
  refine Walk.aloadN (pc' := 11) d_prog_53_method_1_code_10 rfl rfl ?_
  refine Walk.putF (pc' := 14) (host := "") (Or.inl (wd48 hw)) Via.refl (F1.kq K185 (nws (slot_ne (a0 := a0) (Or.inr (wd49 hw)) (Or.inr (wd47 hw)) (by decide) (t := (.object "java/util/Optional")) (by decide) (t' := (.object "java/util/Optional")) (by decide)))) (E1.kq K185) (Or.inr ⟨(wd49 hw), rfl, rfl⟩) (wd35 hw) (ty := (.object "java/util/Optional")) (by decide) rfl rfl d_prog_53_method_1_code_11 gz (Fw.old rfl) (fun h187 K188 F189 => ?_)
  refine Walk.aloadN (pc' := 15) d_prog_53_method_1_code_14 rfl rfl ?_
  refine Walk.aloadN (pc' := 16) d_prog_53_method_1_code_15 rfl rfl ?_
  refine Walk.putF (pc' := 19) (host := "") (Or.inl (wd50 hw)) Via.refl ((F2.kq K185 (nws (slot_ne (a0 := a0) (Or.inr (wd51 hw)) (Or.inr (wd47 hw)) (by decide) (t := (.object "java/lang/String")) (by decide) (t' := (.object "java/util/Optional")) (by decide)))).kq K188 (nws (slot_ne (a0 := a0) (Or.inr (wd51 hw)) (Or.inr (wd49 hw)) (by decide) (t := (.object "java/lang/String")) (by decide) (t' := (.object "java/util/Optional")) (by decide)))) ((E1.kq K185).kq K188) (Or.inr ⟨(wd51 hw), rfl, rfl⟩) (wd35 hw) (ty := (.object "java/lang/String")) (by decide) rfl rfl d_prog_53_method_1_code_16 gz (Fw.old rfl) (fun h190 K191 F192 => ?_)
  refine Walk.aloadN (pc' := 20) d_prog_53_method_1_code_19 rfl rfl ?_
  refine Walk.aload (pc' := 22) d_prog_53_method_1_code_20 rfl rfl ?_
  refine Walk.putF (pc' := 25) (host := "") (Or.inl (wd52 hw)) Via.refl (((F3.kq K185 (nws (slot_ne (a0 := a0) (Or.inr (wd53 hw)) (Or.inr (wd47 hw)) (by decide) (t := (.object "java/util/Optional")) (by decide) (t' := (.object "java/util/Optional")) (by decide)))).kq K188 (nws (slot_ne (a0 := a0) (Or.inr (wd53 hw)) (Or.inr (wd49 hw)) (by decide) (t := (.object "java/util/Optional")) (by decide) (t' := (.object "java/util/Optional")) (by decide)))).kq K191 (nws (slot_ne (a0 := a0) (Or.inr (wd53 hw)) (Or.inr (wd51 hw)) (by decide) (t := (.object "java/util/Optional")) (by decide) (t' := (.object "java/lang/String")) (by decide)))) (((E1.kq K185).kq K188).kq K191) (Or.inr ⟨(wd53 hw), rfl, rfl⟩) (wd35 hw) (ty := (.object "java/util/Optional")) (by decide) rfl rfl d_prog_53_method_1_code_22 gz (Fw.old rfl) (fun h193 K194 F195 => ?_)
  refine Walk.aloadN (pc' := 26) d_prog_53_method_1_code_25 rfl rfl ?_
  refine Walk.aload (pc' := 28) d_prog_53_method_1_code_26 rfl rfl ?_
  refine Walk.putF (pc' := 31) (host := "") (Or.inl (wd54 hw)) Via.refl ((((F4.kq K185 (nws (slot_ne (a0 := a0) (Or.inr (wd55 hw)) (Or.inr (wd47 hw)) (by decide) (t := (.object "java/util/Optional")) (by decide) (t' := (.object "java/util/Optional")) (by decide)))).kq K188 (nws (slot_ne (a0 := a0) (Or.inr (wd55 hw)) (Or.inr (wd49 hw)) (by decide) (t := (.object "java/util/Optional")) (by decide) (t' := (.object "java/util/Optional")) (by decide)))).kq K191 (nws (slot_ne (a0 := a0) (Or.inr (wd55 hw)) (Or.inr (wd51 hw)) (by decide) (t := (.object "java/util/Optional")) (by decide) (t' := (.object "java/lang/String")) (by decide)))).kq K194 (nws (slot_ne (a0 := a0) (Or.inr (wd55 hw)) (Or.inr (wd53 hw)) (by decide) (t := (.object "java/util/Optional")) (by decide) (t' := (.object "java/util/Optional")) (by decide)))) ((((E1.kq K185).kq K188).kq K191).kq K194) (Or.inr ⟨(wd55 hw), rfl, rfl⟩) (wd35 hw) (ty := (.object "java/util/Optional")) (by decide) rfl rfl d_prog_53_method_1_code_28 gz (Fw.old rfl) (fun h196 K197 F198 => ?_)
  exact Walk.ret d_prog_53_method_1_code_31 rfl ⟨⟨rfl, rfl, rfl⟩, (((((E1.kq K185).kq K188).kq K191).kq K194).kq K197), ((((F186.kq K188 (nws (slot_ne (a0 := a0) (Or.inr (wd47 hw)) (Or.inr (wd49 hw)) (by decide) (t := (.object "java/util/Optional")) (by decide) (t' := (.object "java/util/Optional")) (by decide)))).kq K191 (nws (slot_ne (a0 := a0) (Or.inr (wd47 hw)) (Or.inr (wd51 hw)) (by decide) (t := (.object "java/util/Optional")) (by decide) (t' := (.object "java/lang/String")) (by decide)))).kq K194 (nws (slot_ne (a0 := a0) (Or.inr (wd47 hw)) (Or.inr (wd53 hw)) (by decide) (t := (.object "java/util/Optional")) (by decide) (t' := (.object "java/util/Optional")) (by decide)))).kq K197 (nws (slot_ne (a0 := a0) (Or.inr (wd47 hw)) (Or.inr (wd55 hw)) (by decide) (t := (.object "java/util/Optional")) (by decide) (t' := (.object "java/util/Optional")) (by decide)))), (((F189.kq K191 (nws (slot_ne (a0 := a0) (Or.inr (wd49 hw)) (Or.inr (wd51 hw)) (by decide) (t := (.object "java/util/Optional")) (by decide) (t' := (.object "java/lang/String")) (by decide)))).kq K194 (nws (slot_ne (a0 := a0) (Or.inr (wd49 hw)) (Or.inr (wd53 hw)) (by decide) (t := (.object "java/util/Optional")) (by decide) (t' := (.object "java/util/Optional")) (by decide)))).kq K197 (nws (slot_ne (a0 := a0) (Or.inr (wd49 hw)) (Or.inr (wd55 hw)) (by decide) (t := (.object "java/util/Optional")) (by decide) (t' := (.object "java/util/Optional")) (by decide)))), ((F192.kq K194 (nws (slot_ne (a0 := a0) (Or.inr (wd51 hw)) (Or.inr (wd53 hw)) (by decide) (t := (.object "java/lang/String")) (by decide) (t' := (.object "java/util/Optional")) (by decide)))).kq K197 (nws (slot_ne (a0 := a0) (Or.inr (wd51 hw)) (Or.inr (wd55 hw)) (by decide) (t := (.object "java/lang/String")) (by decide) (t' := (.object "java/util/Optional")) (by decide)))), (F195.kq K197 (nws (slot_ne (a0 := a0) (Or.inr (wd53 hw)) (Or.inr (wd55 hw)) (by decide) (t := (.object "java/util/Optional")) (by decide) (t' := (.object "java/util/Optional")) (by decide)))), F198⟩ (fun _ q => q) (Nat.le_of_ble_eq_true rfl) (Nat.le_of_ble_eq_true rfl)
set_option maxRecDepth 65536 in
set_option maxHeartbeats 40000000 in
theorem c_get0 {Z : State} {a0 : Array Value} (hw : ∀ d ∈ tables_1, d.before a0 Z = true) {h : Heap} {Ts : TsT} {Li : LiT} (x v : Addr) (F1 : Fld Z h x "com/example/discern/discern/UriReference" "scheme" "Ljava/util/Optional;" (.ref v)) :
    Con Z (⟨"com/example/discern/discern/UriReference", "scheme", "()Ljava/util/Optional;"⟩ : MethodName) prog_53_method_18_code 1 (some (.object "java/util/Optional")) ({ frames := 0, cells := 0, slots := 0, locals := 0 } : Room) [(.ref x)] h Ts Li (noW) (Pu (some (.ref v)) h Ts Li) := by
  refine Con.of (ws := Fw h noW) (Ls := #[.val (.ref x)]) (plainFor_of_name pn6) (fun m => by first | rfl | (simp [entryFrame, mkF, argsToLocals, Value.category]; done)) (fun E0 => ?_)
  refine Walk.aloadN (pc' := 1) d_prog_53_method_18_code_0 rfl rfl ?_
  refine Walk.getF (pc' := 4) (host := "") (Or.inl (wd46 hw)) Via.refl F1 d_prog_53_method_18_code_1 ?_
  exact Walk.aret d_prog_53_method_18_code_4 rfl rfl rfl ⟨rfl, rfl, rfl, rfl⟩ (fun _ q => q) (Nat.le_of_ble_eq_true rfl) (Nat.le_of_ble_eq_true rfl)
set_option maxRecDepth 65536 in
set_option maxHeartbeats 40000000 in
theorem c_get1 {Z : State} {a0 : Array Value} (hw : ∀ d ∈ tables_1, d.before a0 Z = true) {h : Heap} {Ts : TsT} {Li : LiT} (x v : Addr) (F1 : Fld Z h x "com/example/discern/discern/UriReference" "authority" "Ljava/util/Optional;" (.ref v)) :
    Con Z (⟨"com/example/discern/discern/UriReference", "authority", "()Ljava/util/Optional;"⟩ : MethodName) prog_53_method_19_code 1 (some (.object "java/util/Optional")) ({ frames := 0, cells := 0, slots := 0, locals := 0 } : Room) [(.ref x)] h Ts Li (noW) (Pu (some (.ref v)) h Ts Li) := by
  refine Con.of (ws := Fw h noW) (Ls := #[.val (.ref x)]) (plainFor_of_name pn6) (fun m => by first | rfl | (simp [entryFrame, mkF, argsToLocals, Value.category]; done)) (fun E0 => ?_)
  refine Walk.aloadN (pc' := 1) d_prog_53_method_19_code_0 rfl rfl ?_
  refine Walk.getF (pc' := 4) (host := "") (Or.inl (wd48 hw)) Via.refl F1 d_prog_53_method_19_code_1 ?_
  exact Walk.aret d_prog_53_method_19_code_4 rfl rfl rfl ⟨rfl, rfl, rfl, rfl⟩ (fun _ q => q) (Nat.le_of_ble_eq_true rfl) (Nat.le_of_ble_eq_true rfl)
set_option maxRecDepth 65536 in
set_option maxHeartbeats 40000000 in
theorem c_get2 {Z : State} {a0 : Array Value} (hw : ∀ d ∈ tables_1, d.before a0 Z = true) {h : Heap} {Ts : TsT} {Li : LiT} (x v : Addr) (F1 : Fld Z h x "com/example/discern/discern/UriReference" "path" "Ljava/lang/String;" (.ref v)) :
    Con Z (⟨"com/example/discern/discern/UriReference", "path", "()Ljava/lang/String;"⟩ : MethodName) prog_53_method_20_code 1 (some (.object "java/lang/String")) ({ frames := 0, cells := 0, slots := 0, locals := 0 } : Room) [(.ref x)] h Ts Li (noW) (Pu (some (.ref v)) h Ts Li) := by
  refine Con.of (ws := Fw h noW) (Ls := #[.val (.ref x)]) (plainFor_of_name pn6) (fun m => by first | rfl | (simp [entryFrame, mkF, argsToLocals, Value.category]; done)) (fun E0 => ?_)
  refine Walk.aloadN (pc' := 1) d_prog_53_method_20_code_0 rfl rfl ?_
  refine Walk.getF (pc' := 4) (host := "") (Or.inl (wd50 hw)) Via.refl F1 d_prog_53_method_20_code_1 ?_
  exact Walk.aret d_prog_53_method_20_code_4 rfl rfl rfl ⟨rfl, rfl, rfl, rfl⟩ (fun _ q => q) (Nat.le_of_ble_eq_true rfl) (Nat.le_of_ble_eq_true rfl)
set_option maxRecDepth 65536 in
set_option maxHeartbeats 40000000 in
theorem c_get3 {Z : State} {a0 : Array Value} (hw : ∀ d ∈ tables_1, d.before a0 Z = true) {h : Heap} {Ts : TsT} {Li : LiT} (x v : Addr) (F1 : Fld Z h x "com/example/discern/discern/UriReference" "query" "Ljava/util/Optional;" (.ref v)) :
    Con Z (⟨"com/example/discern/discern/UriReference", "query", "()Ljava/util/Optional;"⟩ : MethodName) prog_53_method_21_code 1 (some (.object "java/util/Optional")) ({ frames := 0, cells := 0, slots := 0, locals := 0 } : Room) [(.ref x)] h Ts Li (noW) (Pu (some (.ref v)) h Ts Li) := by
  refine Con.of (ws := Fw h noW) (Ls := #[.val (.ref x)]) (plainFor_of_name pn6) (fun m => by first | rfl | (simp [entryFrame, mkF, argsToLocals, Value.category]; done)) (fun E0 => ?_)
  refine Walk.aloadN (pc' := 1) d_prog_53_method_21_code_0 rfl rfl ?_
  refine Walk.getF (pc' := 4) (host := "") (Or.inl (wd52 hw)) Via.refl F1 d_prog_53_method_21_code_1 ?_
  exact Walk.aret d_prog_53_method_21_code_4 rfl rfl rfl ⟨rfl, rfl, rfl, rfl⟩ (fun _ q => q) (Nat.le_of_ble_eq_true rfl) (Nat.le_of_ble_eq_true rfl)
set_option maxRecDepth 65536 in
set_option maxHeartbeats 40000000 in
theorem c_get4 {Z : State} {a0 : Array Value} (hw : ∀ d ∈ tables_1, d.before a0 Z = true) {h : Heap} {Ts : TsT} {Li : LiT} (x v : Addr) (F1 : Fld Z h x "com/example/discern/discern/UriReference" "fragment" "Ljava/util/Optional;" (.ref v)) :
    Con Z (⟨"com/example/discern/discern/UriReference", "fragment", "()Ljava/util/Optional;"⟩ : MethodName) prog_53_method_22_code 1 (some (.object "java/util/Optional")) ({ frames := 0, cells := 0, slots := 0, locals := 0 } : Room) [(.ref x)] h Ts Li (noW) (Pu (some (.ref v)) h Ts Li) := by
  refine Con.of (ws := Fw h noW) (Ls := #[.val (.ref x)]) (plainFor_of_name pn6) (fun m => by first | rfl | (simp [entryFrame, mkF, argsToLocals, Value.category]; done)) (fun E0 => ?_)
  refine Walk.aloadN (pc' := 1) d_prog_53_method_22_code_0 rfl rfl ?_
  refine Walk.getF (pc' := 4) (host := "") (Or.inl (wd54 hw)) Via.refl F1 d_prog_53_method_22_code_1 ?_
  exact Walk.aret d_prog_53_method_22_code_4 rfl rfl rfl ⟨rfl, rfl, rfl, rfl⟩ (fun _ q => q) (Nat.le_of_ble_eq_true rfl) (Nat.le_of_ble_eq_true rfl)
set_option maxRecDepth 65536 in
set_option maxHeartbeats 40000000 in
theorem c_wf {Z : State} {a0 : Array Value} (hw : ∀ d ∈ tables_1, d.before a0 Z = true) {h : Heap} {Ts : TsT} {Li : LiT} (x : Addr) (v0 v1 v2 v3 v4 : Addr) (e0 : Addr) (S1 : Sta Z Z.heap "java/util/Optional" "EMPTY" "Ljava/util/Optional;" (.ref e0)) (X1 : Exa Z Z.heap e0 "java/util/Optional") (F0 : Fld Z h x "com/example/discern/discern/UriReference" "scheme" "Ljava/util/Optional;" (.ref v0)) (F1 : Fld Z h x "com/example/discern/discern/UriReference" "authority" "Ljava/util/Optional;" (.ref v1)) (F2 : Fld Z h x "com/example/discern/discern/UriReference" "path" "Ljava/lang/String;" (.ref v2)) (F3 : Fld Z h x "com/example/discern/discern/UriReference" "query" "Ljava/util/Optional;" (.ref v3)) (F4 : Fld Z h x "com/example/discern/discern/UriReference" "fragment" "Ljava/util/Optional;" (.ref v4)) :
    Con Z (⟨"com/example/discern/discern/UriReference", "withoutFragment", "()Lcom/example/discern/discern/UriReference;"⟩ : MethodName) prog_53_method_5_code 1 (some (.object "com/example/discern/discern/UriReference")) ({ frames := 3, cells := 1, slots := 5, locals := 42 } : Room) [(.ref x)] h Ts Li (noW) (fun v h' Ts' Li' => (∃ y, v = some (.ref y) ∧ h.size ≤ y ∧ Exa Z h' y "com/example/discern/discern/UriReference" ∧ Fld Z h' y "com/example/discern/discern/UriReference" "scheme" "Ljava/util/Optional;" (.ref v0) ∧ Fld Z h' y "com/example/discern/discern/UriReference" "authority" "Ljava/util/Optional;" (.ref v1) ∧ Fld Z h' y "com/example/discern/discern/UriReference" "path" "Ljava/lang/String;" (.ref v2) ∧ Fld Z h' y "com/example/discern/discern/UriReference" "query" "Ljava/util/Optional;" (.ref v3) ∧ Fld Z h' y "com/example/discern/discern/UriReference" "fragment" "Ljava/util/Optional;" (.ref e0)) ∧ Ts' = Ts ∧ Li' = Li) := by
  refine Con.of (ws := Fw h noW) (Ls := #[.val (.ref x)]) (plainFor_of_name pn6) (fun m => by first | rfl | (simp [entryFrame, mkF, argsToLocals, Value.category]; done)) (fun E0 => ?_)
  refine Walk.newO (pc' := 3) (wd61 hw) (wd35 hw) (wd36 hw) d_prog_53_method_5_code_0 (by decide) (by decide) (fun h199 x201 g202 g203 g204 K200 E205 D206 => ?_)
  have F207 : Fld Z h199 x201 "com/example/discern/discern/UriReference" "scheme" "Ljava/util/Optional;" .null := D206 (Or.inr (wd47 hw)) (ty := (.object "java/util/Optional")) (by decide)
  have F208 : Fld Z h199 x201 "com/example/discern/discern/UriReference" "authority" "Ljava/util/Optional;" .null := D206 (Or.inr (wd49 hw)) (ty := (.object "java/util/Optional")) (by decide)
  have F209 : Fld Z h199 x201 "com/example/discern/discern/UriReference" "path" "Ljava/lang/String;" .null := D206 (Or.inr (wd51 hw)) (ty := (.object "java/lang/String")) (by decide)
  have F210 : Fld Z h199 x201 "com/example/discern/discern/UriReference" "query" "Ljava/util/Optional;" .null := D206 (Or.inr (wd53 hw)) (ty := (.object "java/util/Optional")) (by decide)
  have F211 : Fld Z h199 x201 "com/example/discern/discern/UriReference" "fragment" "Ljava/util/Optional;" .null := D206 (Or.inr (wd55 hw)) (ty := (.object "java/util/Optional")) (by decide)
  refine Walk.dup (pc' := 4) d_prog_53_method_5_code_3 rfl ?_
  refine Walk.aloadN (pc' := 5) d_prog_53_method_5_code_4 rfl rfl ?_
  refine Walk.getF (pc' := 8) (host := "") (Or.inl (wd46 hw)) Via.refl (F0.kq K200 (fun q => q)) d_prog_53_method_5_code_5 ?_
  refine Walk.aloadN (pc' := 9) d_prog_53_method_5_code_8 rfl rfl ?_
  refine Walk.getF (pc' := 12) (host := "") (Or.inl (wd48 hw)) Via.refl (F1.kq K200 (fun q => q)) d_prog_53_method_5_code_9 ?_
  refine Walk.aloadN (pc' := 13) d_prog_53_method_5_code_12 rfl rfl ?_
  refine Walk.getF (pc' := 16) (host := "") (Or.inl (wd50 hw)) Via.refl (F2.kq K200 (fun q => q)) d_prog_53_method_5_code_13 ?_
  refine Walk.aloadN (pc' := 17) d_prog_53_method_5_code_16 rfl rfl ?_
  refine Walk.getF (pc' := 20) (host := "") (Or.inl (wd52 hw)) Via.refl (F3.kq K200 (fun q => q)) d_prog_53_method_5_code_17 ?_
  refine Walk.callS (pc' := 23) (Wd := 6) (as := []) (rest := [(.ref v3), (.ref v2), (.ref v1), (.ref v0), (.ref x201), (.ref x201)]) (wd62 hw) (wd5 hw) (wd6 hw) (wd7 hw) ((c_empty hw e0 S1 X1).pay (Wd := 6) (wd7 hw) (wd6 hw) (by decide) (by decide)) (hlen := lenOf pd8 rfl) (hd := d_prog_53_method_5_code_20) (hst := rfl) (hW := Nat.le_of_eq rfl) (hsz := rfl) (hc1 := Nat.le_of_ble_eq_true rfl) (hl1 := Nat.le_of_ble_eq_true rfl) (hv := Fw.upN) (kk := fun v212 h216 Ts213 Li214 q215 K217 => ?_)
  obtain ⟨rfl, rfl, rfl, rfl⟩ := q215
  show Walk _ _ _ _ _ _ _ _ _ _ _ _ _ _ 1 5 23 _ [(.ref e0), (.ref v3), (.ref v2), (.ref v1), (.ref v0), (.ref x201), (.ref x201)]
  refine Walk.callI (pc' := 26) (a := x201) (Wd := 1) (as := [(.ref v0), (.ref v1), (.ref v2), (.ref v3), (.ref e0)]) (rest := [(.ref x201)]) (wd63 hw) (wd38 hw) (wd39 hw) ((c_uinit hw x201 v0 v1 v2 v3 e0 E205 F207 F208 F209 F210 F211 g204).pay (wd39 hw) (wd36 hw) (by decide) (by decide)) (hlen := lenOf pd12 rfl) (hd := d_prog_53_method_5_code_23) (hst := rfl) (hW := Nat.le_of_eq rfl) (hsz := rfl) (hc1 := Nat.le_of_ble_eq_true rfl) (hl1 := Nat.le_of_ble_eq_true rfl) (hv := (Fw.up (fun y q => Or.inl (q ▸ g203)))) (kk := fun v224 h228 Ts225 Li226 q227 K229 => ?_)
  obtain ⟨⟨rfl, rfl, rfl⟩, E223, F218, F219, F220, F221, F222⟩ := q227
  show Walk _ _ _ _ _ _ _ _ _ _ _ _ _ _ 1 5 26 _ [(.ref x201)]
  exact Walk.aret d_prog_53_method_5_code_26 rfl rfl rfl ⟨⟨_, rfl, g202, E223, F218, F219, F220, F221, F222⟩, rfl, rfl⟩ (fun _ q => q) (Nat.le_of_ble_eq_true rfl) (Nat.le_of_ble_eq_true rfl)
set_option maxRecDepth 65536 in
set_option maxHeartbeats 40000000 in
theorem c_oeq {Z : State} {a0 : Array Value} (hw : ∀ d ∈ tables_1, d.before a0 Z = true) {h : Heap} {Ts : TsT} {Li : LiT} (x : Addr) :
    Con Z (⟨"java/util/Optional", "equals", "(Ljava/lang/Object;)Z"⟩ : MethodName) jdk_32_method_19_code 3 (some .boolean) ({ frames := 0, cells := 0, slots := 0, locals := 0 } : Room) [(.ref x), (.ref x)] h Ts Li (noW) (Pu (some (.int 1)) h Ts Li) := by
  refine Con.of (ws := Fw h noW) (Ls := #[.val (.ref x), .val (.ref x), .unset]) (plainFor_of_name pn4) (fun m => by first | rfl | (simp [entryFrame, mkF, argsToLocals, Value.category]; done)) (fun E0 => ?_)
  refine Walk.aloadN (pc' := 1) d_jdk_32_method_19_code_0 rfl rfl ?_
  refine Walk.aloadN (pc' := 2) d_jdk_32_method_19_code_1 rfl rfl ?_
  refine Walk.acNo (pc' := 5) d_jdk_32_method_19_code_2 rfl rfl (XT.aa_ne_f rfl) ?_
  refine Walk.iconst (pc' := 6) (1 : Int32) d_jdk_32_method_19_code_5 rfl ?_
  exact Walk.nret d_jdk_32_method_19_code_6 rfl (by simp) ⟨rfl, rfl, rfl, rfl⟩ (fun _ q => q) (Nat.le_of_ble_eq_true rfl) (Nat.le_of_ble_eq_true rfl)
set_option maxRecDepth 65536 in
set_option maxHeartbeats 40000000 in
theorem c_seq {Z : State} {a0 : Array Value} (hw : ∀ d ∈ tables_1, d.before a0 Z = true) {h : Heap} {Ts : TsT} {Li : LiT} (x : Addr) :
    Con Z (⟨"java/lang/String", "equals", "(Ljava/lang/Object;)Z"⟩ : MethodName) jdk_42_method_66_code 3 (some .boolean) ({ frames := 0, cells := 0, slots := 0, locals := 0 } : Room) [(.ref x), (.ref x)] h Ts Li (noW) (Pu (some (.int 1)) h Ts Li) := by
  refine Con.of (ws := Fw h noW) (Ls := #[.val (.ref x), .val (.ref x), .unset]) (plainFor_of_name pn1) (fun m => by first | rfl | (simp [entryFrame, mkF, argsToLocals, Value.category]; done)) (fun E0 => ?_)
  refine Walk.aloadN (pc' := 1) d_jdk_42_method_66_code_0 rfl rfl ?_
  refine Walk.aloadN (pc' := 2) d_jdk_42_method_66_code_1 rfl rfl ?_
  refine Walk.acNo (pc' := 5) d_jdk_42_method_66_code_2 rfl rfl (XT.aa_ne_f rfl) ?_
  refine Walk.iconst (pc' := 6) (1 : Int32) d_jdk_42_method_66_code_5 rfl ?_
  exact Walk.nret d_jdk_42_method_66_code_6 rfl (by simp) ⟨rfl, rfl, rfl, rfl⟩ (fun _ q => q) (Nat.le_of_ble_eq_true rfl) (Nat.le_of_ble_eq_true rfl)
set_option maxRecDepth 65536 in
set_option maxHeartbeats 40000000 in
theorem c_pres {Z : State} {a0 : Array Value} (hw : ∀ d ∈ tables_1, d.before a0 Z = true) {h : Heap} {Ts : TsT} {Li : LiT} (x : Addr) (F1 : Fld Z h x "java/util/Optional" "value" "Ljava/lang/Object;" .null) :
    Con Z (⟨"java/util/Optional", "isPresent", "()Z"⟩ : MethodName) jdk_32_method_6_code 1 (some .boolean) ({ frames := 0, cells := 0, slots := 0, locals := 0 } : Room) [(.ref x)] h Ts Li (noW) (Pu (some (.int 0)) h Ts Li) := by
  refine Con.of (ws := Fw h noW) (Ls := #[.val (.ref x)]) (plainFor_of_name pn4) (fun m => by first | rfl | (simp [entryFrame, mkF, argsToLocals, Value.category]; done)) (fun E0 => ?_)
  refine Walk.aloadN (pc' := 1) d_jdk_32_method_6_code_0 rfl rfl ?_
  refine Walk.getF (pc' := 4) (host := "") (Or.inl (wd104 hw)) Via.refl F1 d_jdk_32_method_6_code_1 ?_
  refine Walk.nullYes (pc' := 11) d_jdk_32_method_6_code_4 rfl ?_
  refine Walk.iconst (pc' := 12) (0 : Int32) d_jdk_32_method_6_code_11 rfl ?_
  exact Walk.nret d_jdk_32_method_6_code_12 rfl (by simp) ⟨rfl, rfl, rfl, rfl⟩ (fun _ q => q) (Nat.le_of_ble_eq_true rfl) (Nat.le_of_ble_eq_true rfl)
set_option maxRecDepth 65536 in
set_option maxHeartbeats 40000000 in
theorem c_law {Z : State} {a0 : Array Value} (hw : ∀ d ∈ tables_1, d.before a0 Z = true) {h : Heap} {Ts : TsT} {Li : LiT} (p0 p1 p2 p3 p4 p5 : Int32) (z : Int32) (hz : ¬ z = 0) (O2 : Sta Z Z.heap "java/lang/String" "COMPACT_STRINGS" "Z" (.int z)) (os : List String) (hcw : Jvm.Lit.compactW.before a0 Z = true) (hL : LE Z h Ts Li os) (hh : Jvm.Lit.constHeld Z "java/lang/String" 7) (e0 : Addr) (S1 : Sta Z Z.heap "java/util/Optional" "EMPTY" "Ljava/util/Optional;" (.ref e0)) (X1 : Exa Z Z.heap e0 "java/util/Optional") (Y1 : Fld Z Z.heap e0 "java/util/Optional" "value" "Ljava/lang/Object;" .null) :
    Con Z x code maxLocals ret room_1 [(.int p0), (.int p1), (.int p2), (.int p3), (.int p4), (.int p5)] h Ts Li (noW) (fun v h' Ts' Li' => v = some (.int 1)) := by
  refine Con.of (ws := Fw h noW) (Ls := #[.val (.int p0), .val (.int p1), .val (.int p2), .val (.int p3), .val (.int p4), .val (.int p5), .unset, .unset, .unset, .unset, .unset, .unset, .unset]) (plainFor_of_name pn2) (fun m => by first | rfl | (simp [entryFrame, mkF, argsToLocals, Value.category]; done)) (fun E0 => ?_)
  refine Walk.iloadN (pc' := 1) at_0 rfl ?_
  refine Walk.iconst (pc' := 2) (1 : Int32) at_1 rfl ?_
  refine Walk.iand (pc' := 3) at_2 ?_
  suffices J1 : ∀ b : Int32, Walk Z "com/example/discern/discern/UriReferenceWithoutFragmentPinLaw" "law" ret code maxLocals room_1 h noW (fun v h' Ts' Li' => v = some (.int 1)) (Fw h noW) Ts Li h 0 0 11 #[.val (.int p0), .val (.int p1), .val (.int p2), .val (.int p3), .val (.int p4), .val (.int p5), .unset, .unset, .unset, .unset, .unset, .unset, .unset] [(.int b)] by
    by_cases hf : (p0 &&& (1 : Int32)) = 0
    · skip
      refine Walk.ifYes (pc' := 10) at_3 (XT.i0_eq_t hf) ?_
      refine Walk.iconst (pc' := 11) (0 : Int32) at_10 rfl ?_
      exact J1 _
    · skip
      refine Walk.ifNo (pc' := 6) at_3 (XT.i0_eq_f hf) ?_
      refine Walk.iconst (pc' := 7) (1 : Int32) at_6 rfl ?_
      refine Walk.goto (pc' := 11) at_7 ?_
      exact J1 _
  intro b1
  refine Walk.iloadN (pc' := 12) at_11 rfl ?_
  refine Walk.callS (pc' := 15) (Wd := 0) (as := [(.int b1), (.int p1)]) (rest := []) (wd0 hw) (wd1 hw) (wd2 hw) (wd3 hw) ((c_opt hw b1 p1 z hz O2 os hcw hL hh e0 S1 X1).pay (wd3 hw) (wd2 hw) (by decide) (by decide)) (hlen := lenOf pd13 rfl) (hd := at_12) (hst := rfl) (hW := Nat.le_of_eq rfl) (hsz := rfl) (hc1 := Nat.le_of_ble_eq_true rfl) (hl1 := Nat.le_of_ble_eq_true rfl) (hv := Fw.upN) (kk := fun v234 h238 Ts235 Li236 q237 K239 => ?_)
  obtain ⟨⟨o233, rfl, E232⟩, L230, m231⟩ := q237
  show Walk _ _ _ _ _ _ _ _ _ _ _ _ _ _ 5 9 15 _ [(.ref o233)]
  refine Walk.astore (pc' := 17) (Ls' := #[.val (.int p0), .val (.int p1), .val (.int p2), .val (.int p3), .val (.int p4), .val (.int p5), .val (.ref o233), .unset, .unset, .unset, .unset, .unset, .unset]) at_15 rfl rfl ?_
  refine Walk.iloadN (pc' := 18) at_17 rfl ?_
  refine Walk.iconst (pc' := 19) (2 : Int32) at_18 rfl ?_
  refine Walk.iand (pc' := 20) at_19 ?_
  suffices J2 : ∀ b : Int32, Walk Z "com/example/discern/discern/UriReferenceWithoutFragmentPinLaw" "law" ret code maxLocals room_1 h noW (fun v h' Ts' Li' => v = some (.int 1)) (Fw h noW) Ts235 Li236 h238 5 9 28 #[.val (.int p0), .val (.int p1), .val (.int p2), .val (.int p3), .val (.int p4), .val (.int p5), .val (.ref o233), .unset, .unset, .unset, .unset, .unset, .unset] [(.int b)] by
    by_cases hf : (p0 &&& (2 : Int32)) = 0
    · skip
      refine Walk.ifYes (pc' := 27) at_20 (XT.i0_eq_t hf) ?_
      refine Walk.iconst (pc' := 28) (0 : Int32) at_27 rfl ?_
      exact J2 _
    · skip
      refine Walk.ifNo (pc' := 23) at_20 (XT.i0_eq_f hf) ?_
      refine Walk.iconst (pc' := 24) (1 : Int32) at_23 rfl ?_
      refine Walk.goto (pc' := 28) at_24 ?_
      exact J2 _
  intro b2
  refine Walk.iloadN (pc' := 29) at_28 rfl ?_
  refine Walk.callS (pc' := 32) (Wd := 0) (as := [(.int b2), (.int p2)]) (rest := []) (wd0 hw) (wd1 hw) (wd2 hw) (wd3 hw) ((c_opt hw b2 p2 z hz O2 os hcw L230 hh e0 S1 X1).pay (wd3 hw) (wd2 hw) (by decide) (by decide)) (hlen := lenOf pd13 rfl) (hd := at_29) (hst := rfl) (hW := Nat.le_of_eq rfl) (hsz := rfl) (hc1 := Nat.le_of_ble_eq_true rfl) (hl1 := Nat.le_of_ble_eq_true rfl) (hv := Fw.upN) (kk := fun v244 h248 Ts245 Li246 q247 K249 => ?_)
  obtain ⟨⟨o243, rfl, E242⟩, L240, m241⟩ := q247
  show Walk _ _ _ _ _ _ _ _ _ _ _ _ _ _ 10 18 32 _ [(.ref o243)]
  refine Walk.astore (pc' := 34) (Ls' := #[.val (.int p0), .val (.int p1), .val (.int p2), .val (.int p3), .val (.int p4), .val (.int p5), .val (.ref o233), .val (.ref o243), .unset, .unset, .unset, .unset, .unset]) at_32 rfl rfl ?_
  refine Walk.iloadN (pc' := 35) at_34 rfl ?_
  refine Walk.callS (pc' := 38) (Wd := 0) (as := [(.int p3)]) (rest := []) (wd9 hw) (wd10 hw) (wd2 hw) (wd11 hw) ((c_str hw p3 z hz O2 os hcw L240 hh).pay (wd11 hw) (wd2 hw) (by decide) (by decide)) (hlen := lenOf pd9 rfl) (hd := at_35) (hst := rfl) (hW := Nat.le_of_eq rfl) (hsz := rfl) (hc1 := Nat.le_of_ble_eq_true rfl) (hl1 := Nat.le_of_ble_eq_true rfl) (hv := Fw.upN) (kk := fun v253 h257 Ts254 Li255 q256 K258 => ?_)
  obtain ⟨⟨s8, rfl, E252⟩, L250, m251⟩ := q256
  show Walk _ _ _ _ _ _ _ _ _ _ _ _ _ _ 14 26 38 _ [(.ref s8)]
  refine Walk.astore (pc' := 40) (Ls' := #[.val (.int p0), .val (.int p1), .val (.int p2), .val (.int p3), .val (.int p4), .val (.int p5), .val (.ref o233), .val (.ref o243), .val (.ref s8), .unset, .unset, .unset, .unset]) at_38 rfl rfl ?_
  refine Walk.iloadN (pc' := 41) at_40 rfl ?_
  refine Walk.iconst (pc' := 42) (4 : Int32) at_41 rfl ?_
  refine Walk.iand (pc' := 43) at_42 ?_
  suffices J3 : ∀ b : Int32, Walk Z "com/example/discern/discern/UriReferenceWithoutFragmentPinLaw" "law" ret code maxLocals room_1 h noW (fun v h' Ts' Li' => v = some (.int 1)) (Fw h noW) Ts254 Li255 h257 14 26 51 #[.val (.int p0), .val (.int p1), .val (.int p2), .val (.int p3), .val (.int p4), .val (.int p5), .val (.ref o233), .val (.ref o243), .val (.ref s8), .unset, .unset, .unset, .unset] [(.int b)] by
    by_cases hf : (p0 &&& (4 : Int32)) = 0
    · skip
      refine Walk.ifYes (pc' := 50) at_43 (XT.i0_eq_t hf) ?_
      refine Walk.iconst (pc' := 51) (0 : Int32) at_50 rfl ?_
      exact J3 _
    · skip
      refine Walk.ifNo (pc' := 46) at_43 (XT.i0_eq_f hf) ?_
      refine Walk.iconst (pc' := 47) (1 : Int32) at_46 rfl ?_
      refine Walk.goto (pc' := 51) at_47 ?_
      exact J3 _
  intro b3
  refine Walk.iload (pc' := 53) at_51 rfl ?_
  refine Walk.callS (pc' := 56) (Wd := 0) (as := [(.int b3), (.int p4)]) (rest := []) (wd0 hw) (wd1 hw) (wd2 hw) (wd3 hw) ((c_opt hw b3 p4 z hz O2 os hcw L250 hh e0 S1 X1).pay (wd3 hw) (wd2 hw) (by decide) (by decide)) (hlen := lenOf pd13 rfl) (hd := at_53) (hst := rfl) (hW := Nat.le_of_eq rfl) (hsz := rfl) (hc1 := Nat.le_of_ble_eq_true rfl) (hl1 := Nat.le_of_ble_eq_true rfl) (hv := Fw.upN) (kk := fun v263 h267 Ts264 Li265 q266 K268 => ?_)
  obtain ⟨⟨o262, rfl, E261⟩, L259, m260⟩ := q266
  show Walk _ _ _ _ _ _ _ _ _ _ _ _ _ _ 19 35 56 _ [(.ref o262)]
  refine Walk.astore (pc' := 58) (Ls' := #[.val (.int p0), .val (.int p1), .val (.int p2), .val (.int p3), .val (.int p4), .val (.int p5), .val (.ref o233), .val (.ref o243), .val (.ref s8), .val (.ref o262), .unset, .unset, .unset]) at_56 rfl rfl ?_
  refine Walk.iloadN (pc' := 59) at_58 rfl ?_
  refine Walk.bipush (pc' := 61) (8 : Int32) at_59 rfl ?_
  refine Walk.iand (pc' := 62) at_61 ?_
  suffices J4 : ∀ b : Int32, Walk Z "com/example/discern/discern/UriReferenceWithoutFragmentPinLaw" "law" ret code maxLocals room_1 h noW (fun v h' Ts' Li' => v = some (.int 1)) (Fw h noW) Ts264 Li265 h267 19 35 70 #[.val (.int p0), .val (.int p1), .val (.int p2), .val (.int p3), .val (.int p4), .val (.int p5), .val (.ref o233), .val (.ref o243), .val (.ref s8), .val (.ref o262), .unset, .unset, .unset] [(.int b)] by
    by_cases hf : (p0 &&& (8 : Int32)) = 0
    · skip
      refine Walk.ifYes (pc' := 69) at_62 (XT.i0_eq_t hf) ?_
      refine Walk.iconst (pc' := 70) (0 : Int32) at_69 rfl ?_
      exact J4 _
    · skip
      refine Walk.ifNo (pc' := 65) at_62 (XT.i0_eq_f hf) ?_
      refine Walk.iconst (pc' := 66) (1 : Int32) at_65 rfl ?_
      refine Walk.goto (pc' := 70) at_66 ?_
      exact J4 _
  intro b4
  refine Walk.iload (pc' := 72) at_70 rfl ?_
  refine Walk.callS (pc' := 75) (Wd := 0) (as := [(.int b4), (.int p5)]) (rest := []) (wd0 hw) (wd1 hw) (wd2 hw) (wd3 hw) ((c_opt hw b4 p5 z hz O2 os hcw L259 hh e0 S1 X1).pay (wd3 hw) (wd2 hw) (by decide) (by decide)) (hlen := lenOf pd13 rfl) (hd := at_72) (hst := rfl) (hW := Nat.le_of_eq rfl) (hsz := rfl) (hc1 := Nat.le_of_ble_eq_true rfl) (hl1 := Nat.le_of_ble_eq_true rfl) (hv := Fw.upN) (kk := fun v273 h277 Ts274 Li275 q276 K278 => ?_)
  obtain ⟨⟨o272, rfl, E271⟩, L269, m270⟩ := q276
  show Walk _ _ _ _ _ _ _ _ _ _ _ _ _ _ 24 44 75 _ [(.ref o272)]
  refine Walk.astore (pc' := 77) (Ls' := #[.val (.int p0), .val (.int p1), .val (.int p2), .val (.int p3), .val (.int p4), .val (.int p5), .val (.ref o233), .val (.ref o243), .val (.ref s8), .val (.ref o262), .val (.ref o272), .unset, .unset]) at_75 rfl rfl ?_
  refine Walk.newO (pc' := 80) (wd34 hw) (wd35 hw) (wd36 hw) at_77 (by decide) (by decide) (fun h279 x281 g282 g283 g284 K280 E285 D286 => ?_)
  have F287 : Fld Z h279 x281 "com/example/discern/discern/UriReference" "scheme" "Ljava/util/Optional;" .null := D286 (Or.inr (wd47 hw)) (ty := (.object "java/util/Optional")) (by decide)
  have F288 : Fld Z h279 x281 "com/example/discern/discern/UriReference" "authority" "Ljava/util/Optional;" .null := D286 (Or.inr (wd49 hw)) (ty := (.object "java/util/Optional")) (by decide)
  have F289 : Fld Z h279 x281 "com/example/discern/discern/UriReference" "path" "Ljava/lang/String;" .null := D286 (Or.inr (wd51 hw)) (ty := (.object "java/lang/String")) (by decide)
  have F290 : Fld Z h279 x281 "com/example/discern/discern/UriReference" "query" "Ljava/util/Optional;" .null := D286 (Or.inr (wd53 hw)) (ty := (.object "java/util/Optional")) (by decide)
  have F291 : Fld Z h279 x281 "com/example/discern/discern/UriReference" "fragment" "Ljava/util/Optional;" .null := D286 (Or.inr (wd55 hw)) (ty := (.object "java/util/Optional")) (by decide)
  refine Walk.dup (pc' := 81) at_80 rfl ?_
  refine Walk.aload (pc' := 83) at_81 rfl rfl ?_
  refine Walk.aload (pc' := 85) at_83 rfl rfl ?_
  refine Walk.aload (pc' := 87) at_85 rfl rfl ?_
  refine Walk.aload (pc' := 89) at_87 rfl rfl ?_
  refine Walk.aload (pc' := 91) at_89 rfl rfl ?_
  refine Walk.callI (pc' := 94) (a := x281) (Wd := 1) (as := [(.ref o233), (.ref o243), (.ref s8), (.ref o262), (.ref o272)]) (rest := [(.ref x281)]) (wd37 hw) (wd38 hw) (wd39 hw) ((c_uinit hw x281 o233 o243 s8 o262 o272 E285 F287 F288 F289 F290 F291 g284).pay (wd39 hw) (wd36 hw) (by decide) (by decide)) (hlen := lenOf pd12 rfl) (hd := at_91) (hst := rfl) (hW := Nat.le_of_eq rfl) (hsz := rfl) (hc1 := Nat.le_of_ble_eq_true rfl) (hl1 := Nat.le_of_ble_eq_true rfl) (hv := (Fw.up (fun y q => Or.inl (q ▸ g283)))) (kk := fun v298 h302 Ts299 Li300 q301 K303 => ?_)
  obtain ⟨⟨rfl, rfl, rfl⟩, E297, F292, F293, F294, F295, F296⟩ := q301
  show Walk _ _ _ _ _ _ _ _ _ _ _ _ _ _ 25 49 94 _ [(.ref x281)]
  refine Walk.astore (pc' := 96) (Ls' := #[.val (.int p0), .val (.int p1), .val (.int p2), .val (.int p3), .val (.int p4), .val (.int p5), .val (.ref o233), .val (.ref o243), .val (.ref s8), .val (.ref o262), .val (.ref o272), .val (.ref x281), .unset]) at_94 rfl rfl ?_
  refine Walk.aload (pc' := 98) at_96 rfl rfl ?_
  refine Walk.callV (pc' := 101) (a := x281) (Wd := 0) (as := []) (rest := []) (wd56 hw) (wd57 hw) (wd59 hw) (wd59 hw) (wd58 hw) E297 ((c_wf hw x281 o233 o243 s8 o262 o272 e0 S1 X1 F292 F293 F294 F295 F296).pay (wd60 hw) (wd36 hw) (by decide) (by decide)) (hlen := lenOf pd14 rfl) (hd := at_98) (hst := rfl) (hW := Nat.le_of_eq rfl) (hsz := rfl) (hc1 := Nat.le_of_ble_eq_true rfl) (hl1 := Nat.le_of_ble_eq_true rfl) (hv := Fw.upN) (kk := fun v312 h316 Ts313 Li314 q315 K317 => ?_)
  obtain ⟨⟨y304, rfl, g306, E305, F307, F308, F309, F310, F311⟩, rfl, rfl⟩ := q315
  show Walk _ _ _ _ _ _ _ _ _ _ _ _ _ _ 26 54 101 _ [(.ref y304)]
  refine Walk.old fun E9 => ?_
  refine Walk.astore (pc' := 103) (Ls' := #[.val (.int p0), .val (.int p1), .val (.int p2), .val (.int p3), .val (.int p4), .val (.int p5), .val (.ref o233), .val (.ref o243), .val (.ref s8), .val (.ref o262), .val (.ref o272), .val (.ref x281), .val (.ref y304)]) at_101 rfl rfl ?_
  refine Walk.aload (pc' := 105) at_103 rfl rfl ?_
  refine Walk.callV (pc' := 108) (a := y304) (Wd := 0) (as := []) (rest := []) (wd64 hw) (wd65 hw) (wd67 hw) (wd67 hw) (wd66 hw) E305 ((c_get0 hw y304 o233 F307).pay (wd68 hw) (wd36 hw) (by decide) (by decide)) (hlen := lenOf pd8 rfl) (hd := at_105) (hst := rfl) (hW := Nat.le_of_eq rfl) (hsz := rfl) (hc1 := Nat.le_of_ble_eq_true rfl) (hl1 := Nat.le_of_ble_eq_true rfl) (hv := Fw.upN) (kk := fun v318 h322 Ts319 Li320 q321 K323 => ?_)
  obtain ⟨rfl, rfl, rfl, rfl⟩ := q321
  show Walk _ _ _ _ _ _ _ _ _ _ _ _ _ _ 26 54 108 _ [(.ref o233)]
  refine Walk.aload (pc' := 110) at_108 rfl rfl ?_
  refine Walk.callV (pc' := 113) (a := o233) (Wd := 0) (as := [(.ref o233)]) (rest := []) (wd69 hw) (wd70 hw) (wd72 hw) (wd72 hw) (wd71 hw) (((((((E232.kq K249).kq K258).kq K268).kq K278).kq K280).kq K303).kq K317) ((c_oeq hw o233).pay (wd73 hw) (wd6 hw) (by decide) (by decide)) (hlen := lenOf pd15 rfl) (hd := at_110) (hst := rfl) (hW := Nat.le_of_eq rfl) (hsz := rfl) (hc1 := Nat.le_of_ble_eq_true rfl) (hl1 := Nat.le_of_ble_eq_true rfl) (hv := Fw.upN) (kk := fun v324 h328 Ts325 Li326 q327 K329 => ?_)
  obtain ⟨rfl, rfl, rfl, rfl⟩ := q327
  show Walk _ _ _ _ _ _ _ _ _ _ _ _ _ _ 26 54 113 _ [(.int (1 : Int32))]
  refine Walk.ifNo (pc' := 116) at_113 (XT.i0_eq_f (by decide)) ?_
  refine Walk.aload (pc' := 118) at_116 rfl rfl ?_
  refine Walk.callV (pc' := 121) (a := y304) (Wd := 0) (as := []) (rest := []) (wd74 hw) (wd75 hw) (wd77 hw) (wd77 hw) (wd76 hw) E305 ((c_get1 hw y304 o243 F308).pay (wd78 hw) (wd36 hw) (by decide) (by decide)) (hlen := lenOf pd8 rfl) (hd := at_118) (hst := rfl) (hW := Nat.le_of_eq rfl) (hsz := rfl) (hc1 := Nat.le_of_ble_eq_true rfl) (hl1 := Nat.le_of_ble_eq_true rfl) (hv := Fw.upN) (kk := fun v330 h334 Ts331 Li332 q333 K335 => ?_)
  obtain ⟨rfl, rfl, rfl, rfl⟩ := q333
  show Walk _ _ _ _ _ _ _ _ _ _ _ _ _ _ 26 54 121 _ [(.ref o243)]
  refine Walk.aload (pc' := 123) at_121 rfl rfl ?_
  refine Walk.callV (pc' := 126) (a := o243) (Wd := 0) (as := [(.ref o243)]) (rest := []) (wd69 hw) (wd70 hw) (wd72 hw) (wd72 hw) (wd71 hw) ((((((E242.kq K258).kq K268).kq K278).kq K280).kq K303).kq K317) ((c_oeq hw o243).pay (wd73 hw) (wd6 hw) (by decide) (by decide)) (hlen := lenOf pd15 rfl) (hd := at_123) (hst := rfl) (hW := Nat.le_of_eq rfl) (hsz := rfl) (hc1 := Nat.le_of_ble_eq_true rfl) (hl1 := Nat.le_of_ble_eq_true rfl) (hv := Fw.upN) (kk := fun v336 h340 Ts337 Li338 q339 K341 => ?_)
  obtain ⟨rfl, rfl, rfl, rfl⟩ := q339
  show Walk _ _ _ _ _ _ _ _ _ _ _ _ _ _ 26 54 126 _ [(.int (1 : Int32))]
  refine Walk.ifNo (pc' := 129) at_126 (XT.i0_eq_f (by decide)) ?_
  refine Walk.aload (pc' := 131) at_129 rfl rfl ?_
  refine Walk.callV (pc' := 134) (a := y304) (Wd := 0) (as := []) (rest := []) (wd79 hw) (wd80 hw) (wd82 hw) (wd82 hw) (wd81 hw) E305 ((c_get2 hw y304 s8 F309).pay (wd83 hw) (wd36 hw) (by decide) (by decide)) (hlen := lenOf pd16 rfl) (hd := at_131) (hst := rfl) (hW := Nat.le_of_eq rfl) (hsz := rfl) (hc1 := Nat.le_of_ble_eq_true rfl) (hl1 := Nat.le_of_ble_eq_true rfl) (hv := Fw.upN) (kk := fun v342 h346 Ts343 Li344 q345 K347 => ?_)
  obtain ⟨rfl, rfl, rfl, rfl⟩ := q345
  show Walk _ _ _ _ _ _ _ _ _ _ _ _ _ _ 26 54 134 _ [(.ref s8)]
  refine Walk.aload (pc' := 136) at_134 rfl rfl ?_
  refine Walk.callV (pc' := 139) (a := s8) (Wd := 0) (as := [(.ref s8)]) (rest := []) (wd84 hw) (wd85 hw) (wd87 hw) (wd87 hw) (wd86 hw) (((((E252.kq K268).kq K278).kq K280).kq K303).kq K317) ((c_seq hw s8).pay (wd88 hw) (wd14 hw) (by decide) (by decide)) (hlen := lenOf pd15 rfl) (hd := at_136) (hst := rfl) (hW := Nat.le_of_eq rfl) (hsz := rfl) (hc1 := Nat.le_of_ble_eq_true rfl) (hl1 := Nat.le_of_ble_eq_true rfl) (hv := Fw.upN) (kk := fun v348 h352 Ts349 Li350 q351 K353 => ?_)
  obtain ⟨rfl, rfl, rfl, rfl⟩ := q351
  show Walk _ _ _ _ _ _ _ _ _ _ _ _ _ _ 26 54 139 _ [(.int (1 : Int32))]
  refine Walk.ifNo (pc' := 142) at_139 (XT.i0_eq_f (by decide)) ?_
  refine Walk.aload (pc' := 144) at_142 rfl rfl ?_
  refine Walk.callV (pc' := 147) (a := y304) (Wd := 0) (as := []) (rest := []) (wd89 hw) (wd90 hw) (wd92 hw) (wd92 hw) (wd91 hw) E305 ((c_get3 hw y304 o262 F310).pay (wd93 hw) (wd36 hw) (by decide) (by decide)) (hlen := lenOf pd8 rfl) (hd := at_144) (hst := rfl) (hW := Nat.le_of_eq rfl) (hsz := rfl) (hc1 := Nat.le_of_ble_eq_true rfl) (hl1 := Nat.le_of_ble_eq_true rfl) (hv := Fw.upN) (kk := fun v354 h358 Ts355 Li356 q357 K359 => ?_)
  obtain ⟨rfl, rfl, rfl, rfl⟩ := q357
  show Walk _ _ _ _ _ _ _ _ _ _ _ _ _ _ 26 54 147 _ [(.ref o262)]
  refine Walk.aload (pc' := 149) at_147 rfl rfl ?_
  refine Walk.callV (pc' := 152) (a := o262) (Wd := 0) (as := [(.ref o262)]) (rest := []) (wd69 hw) (wd70 hw) (wd72 hw) (wd72 hw) (wd71 hw) ((((E261.kq K278).kq K280).kq K303).kq K317) ((c_oeq hw o262).pay (wd73 hw) (wd6 hw) (by decide) (by decide)) (hlen := lenOf pd15 rfl) (hd := at_149) (hst := rfl) (hW := Nat.le_of_eq rfl) (hsz := rfl) (hc1 := Nat.le_of_ble_eq_true rfl) (hl1 := Nat.le_of_ble_eq_true rfl) (hv := Fw.upN) (kk := fun v360 h364 Ts361 Li362 q363 K365 => ?_)
  obtain ⟨rfl, rfl, rfl, rfl⟩ := q363
  show Walk _ _ _ _ _ _ _ _ _ _ _ _ _ _ 26 54 152 _ [(.int (1 : Int32))]
  refine Walk.ifNo (pc' := 155) at_152 (XT.i0_eq_f (by decide)) ?_
  refine Walk.aload (pc' := 157) at_155 rfl rfl ?_
  refine Walk.callV (pc' := 160) (a := y304) (Wd := 0) (as := []) (rest := []) (wd94 hw) (wd95 hw) (wd97 hw) (wd97 hw) (wd96 hw) E305 ((c_get4 hw y304 e0 F311).pay (wd98 hw) (wd36 hw) (by decide) (by decide)) (hlen := lenOf pd8 rfl) (hd := at_157) (hst := rfl) (hW := Nat.le_of_eq rfl) (hsz := rfl) (hc1 := Nat.le_of_ble_eq_true rfl) (hl1 := Nat.le_of_ble_eq_true rfl) (hv := Fw.upN) (kk := fun v366 h370 Ts367 Li368 q369 K371 => ?_)
  obtain ⟨rfl, rfl, rfl, rfl⟩ := q369
  show Walk _ _ _ _ _ _ _ _ _ _ _ _ _ _ 26 54 160 _ [(.ref e0)]
  refine Walk.callV (pc' := 163) (a := e0) (Wd := 0) (as := []) (rest := []) (wd99 hw) (wd100 hw) (wd102 hw) (wd102 hw) (wd101 hw) (X1.ext E9) ((c_pres hw e0 (Y1.ext E9)).pay (wd103 hw) (wd6 hw) (by decide) (by decide)) (hlen := lenOf pd17 rfl) (hd := at_160) (hst := rfl) (hW := Nat.le_of_eq rfl) (hsz := rfl) (hc1 := Nat.le_of_ble_eq_true rfl) (hl1 := Nat.le_of_ble_eq_true rfl) (hv := Fw.upN) (kk := fun v372 h376 Ts373 Li374 q375 K377 => ?_)
  obtain ⟨rfl, rfl, rfl, rfl⟩ := q375
  show Walk _ _ _ _ _ _ _ _ _ _ _ _ _ _ 26 54 163 _ [(.int (0 : Int32))]
  refine Walk.ifNo (pc' := 166) at_163 (XT.i0_ne_f rfl) ?_
  refine Walk.aload (pc' := 168) at_166 rfl rfl ?_
  refine Walk.callV (pc' := 171) (a := x281) (Wd := 0) (as := []) (rest := []) (wd94 hw) (wd95 hw) (wd97 hw) (wd97 hw) (wd96 hw) (E297.kq K317) ((c_get4 hw x281 o272 (F296.kq K317 (fun q => q))).pay (wd98 hw) (wd36 hw) (by decide) (by decide)) (hlen := lenOf pd8 rfl) (hd := at_168) (hst := rfl) (hW := Nat.le_of_eq rfl) (hsz := rfl) (hc1 := Nat.le_of_ble_eq_true rfl) (hl1 := Nat.le_of_ble_eq_true rfl) (hv := Fw.upN) (kk := fun v378 h382 Ts379 Li380 q381 K383 => ?_)
  obtain ⟨rfl, rfl, rfl, rfl⟩ := q381
  show Walk _ _ _ _ _ _ _ _ _ _ _ _ _ _ 26 54 171 _ [(.ref o272)]
  refine Walk.aload (pc' := 173) at_171 rfl rfl ?_
  refine Walk.callV (pc' := 176) (a := o272) (Wd := 0) (as := [(.ref o272)]) (rest := []) (wd69 hw) (wd70 hw) (wd72 hw) (wd72 hw) (wd71 hw) (((E271.kq K280).kq K303).kq K317) ((c_oeq hw o272).pay (wd73 hw) (wd6 hw) (by decide) (by decide)) (hlen := lenOf pd15 rfl) (hd := at_173) (hst := rfl) (hW := Nat.le_of_eq rfl) (hsz := rfl) (hc1 := Nat.le_of_ble_eq_true rfl) (hl1 := Nat.le_of_ble_eq_true rfl) (hv := Fw.upN) (kk := fun v384 h388 Ts385 Li386 q387 K389 => ?_)
  obtain ⟨rfl, rfl, rfl, rfl⟩ := q387
  show Walk _ _ _ _ _ _ _ _ _ _ _ _ _ _ 26 54 176 _ [(.int (1 : Int32))]
  refine Walk.ifNo (pc' := 179) at_176 (XT.i0_eq_f (by decide)) ?_
  refine Walk.aload (pc' := 181) at_179 rfl rfl ?_
  refine Walk.callV (pc' := 184) (a := x281) (Wd := 0) (as := []) (rest := []) (wd79 hw) (wd80 hw) (wd82 hw) (wd82 hw) (wd81 hw) (E297.kq K317) ((c_get2 hw x281 s8 (F294.kq K317 (fun q => q))).pay (wd83 hw) (wd36 hw) (by decide) (by decide)) (hlen := lenOf pd16 rfl) (hd := at_181) (hst := rfl) (hW := Nat.le_of_eq rfl) (hsz := rfl) (hc1 := Nat.le_of_ble_eq_true rfl) (hl1 := Nat.le_of_ble_eq_true rfl) (hv := Fw.upN) (kk := fun v390 h394 Ts391 Li392 q393 K395 => ?_)
  obtain ⟨rfl, rfl, rfl, rfl⟩ := q393
  show Walk _ _ _ _ _ _ _ _ _ _ _ _ _ _ 26 54 184 _ [(.ref s8)]
  refine Walk.aload (pc' := 186) at_184 rfl rfl ?_
  refine Walk.callV (pc' := 189) (a := s8) (Wd := 0) (as := [(.ref s8)]) (rest := []) (wd84 hw) (wd85 hw) (wd87 hw) (wd87 hw) (wd86 hw) (((((E252.kq K268).kq K278).kq K280).kq K303).kq K317) ((c_seq hw s8).pay (wd88 hw) (wd14 hw) (by decide) (by decide)) (hlen := lenOf pd15 rfl) (hd := at_186) (hst := rfl) (hW := Nat.le_of_eq rfl) (hsz := rfl) (hc1 := Nat.le_of_ble_eq_true rfl) (hl1 := Nat.le_of_ble_eq_true rfl) (hv := Fw.upN) (kk := fun v396 h400 Ts397 Li398 q399 K401 => ?_)
  obtain ⟨rfl, rfl, rfl, rfl⟩ := q399
  show Walk _ _ _ _ _ _ _ _ _ _ _ _ _ _ 26 54 189 _ [(.int (1 : Int32))]
  refine Walk.ifNo (pc' := 192) at_189 (XT.i0_eq_f (by decide)) ?_
  refine Walk.iconst (pc' := 193) (1 : Int32) at_192 rfl ?_
  refine Walk.goto (pc' := 197) at_193 ?_
  exact Walk.nret at_197 rfl (by simp) rfl (fun _ q => q) (Nat.le_of_ble_eq_true rfl) (Nat.le_of_ble_eq_true rfl)
set_option maxRecDepth 65536 in
set_option maxHeartbeats 40000000 in
theorem comes_1 {Post : Tables → Env → Array Value → State → Outcome → State → Prop} (hpost : ∀ tb e args s v u, (limb_1_1.after args s (.returned v) u = true ∧ limb_1_2.after args s (.returned v) u = true ∧ True) → FramedW s (.returned v) u (Jvm.fieldLocs frame_1_writes args s ++ Jvm.arrayLocs frame_1_arrays args s ++ Jvm.staticLocs frame_1_statics s) 56 1216 → Post tb e args s (.returned v) u) :
    ArmFor flags0 classFile x code maxLocals ret World_1 tables_1 room_1 Calls_1 rest_1 Pre_1 Post := by
  intro l hfl _ _ p e ha hc hk s m args below hf hA hF happ hP
  obtain ⟨hcalls, hrest, hpre⟩ := hP
  obtain ⟨-, -, -, hnamed, -, -, -, hat⟩ := (Spec.applies_iff hf).mp happ
  obtain ⟨hg, hn⟩ := and_e (Cond.before_iff.mp (show (Jvm.Cond.and given_1 narrow_1).before args s = true from hpre))
  obtain ⟨h1, b0⟩ := and_e hg
  obtain ⟨a0, b1⟩ := and_e b0
  obtain ⟨a1, b2⟩ := and_e b1
  obtain ⟨a2, b3⟩ := and_e b2
  obtain ⟨a3, b4⟩ := and_e b3
  obtain ⟨a4, b5⟩ := and_e b4
  obtain ⟨u0, u1, u2, u3, u4, u5, rfl⟩ : ∃ u0 u1 u2 u3 u4 u5 : Value, args = #[u0, u1, u2, u3, u4, u5] := by
    have hs : args.size = 6 := by simpa [Cond.value, given_1] using h1
    obtain ⟨L⟩ := args
    match L, hs with
    | [u0, u1, u2, u3, u4, u5], _ => exact ⟨u0, u1, u2, u3, u4, u5, rfl⟩
  have hw := fun d (hd : d ∈ tables_1) => atoms_spec (ws := Jvm.Cond.code x code maxLocals ret :: tables_1) hat d (List.mem_cons_of_mem _ hd)
  obtain ⟨hsets, hown0⟩ := atoms_of _ (rest_1_c_eq ▸ (show rest_1_c.before _ s = true from hrest))
  obtain ⟨p0, e0⟩ := is_v a0
  obtain rfl : u0 = (.int p0) := Option.some.inj e0
  obtain ⟨p1, e1⟩ := is_v a1
  obtain rfl : u1 = (.int p1) := Option.some.inj e1
  obtain ⟨p2, e2⟩ := is_v a2
  obtain rfl : u2 = (.int p2) := Option.some.inj e2
  obtain ⟨p3, e3⟩ := is_v a3
  obtain rfl : u3 = (.int p3) := Option.some.inj e3
  obtain ⟨p4, e4⟩ := is_v a4
  obtain rfl : u4 = (.int p4) := Option.some.inj e4
  obtain ⟨p5, e5⟩ := is_v b5
  obtain rfl : u5 = (.int p5) := Option.some.inj e5
  obtain ⟨z, ez⟩ := is_v (Cond.before_iff.mp (hsets _ (List.mem_of_getElem? (i := 5) rfl)))
  have O2 : Sta s s.heap "java/lang/String" "COMPACT_STRINGS" "Z" (.int z) := Sta.start ez (Or.inl (hsets _ (List.mem_of_getElem? (i := 4) rfl)))
  have hcw := hsets _ (List.mem_of_getElem? (i := 6) rfl)
  have hz : ¬ (z = (0 : Int32)) := gotF (Cond.eq_ints ez (Term.int_eval (0))) (not_v (Cond.before_iff.mp hcw))
  obtain ⟨G3, eG, rG3⟩ := isR_v (Cond.before_iff.mp (hsets _ (List.mem_of_getElem? (i := 12) rfl)))
  have O4 : Sta s s.heap "jdk/internal/util/Preconditions" "SIOOBE_FORMATTER" "Ljava/util/function/BiFunction;" G3 := Sta.start eG (Or.inl (hsets _ (List.mem_of_getElem? (i := 11) rfl)))
  have hh : Jvm.Lit.constHeld s "java/lang/String" 7 := hcalls.1 ("java/lang/String", 7) (by decide)
  obtain ⟨e0, ee⟩ := exa_v (Cond.before_iff.mp (hsets _ (List.mem_of_getElem? (i := 2) rfl)))
  have S1 : Sta s s.heap "java/util/Optional" "EMPTY" "Ljava/util/Optional;" (.ref e0) := Sta.start ee (Or.inl (hsets _ (List.mem_of_getElem? (i := 1) rfl)))
  have X1 := Exa.start ee (Cond.before_iff.mp (hsets _ (List.mem_of_getElem? (i := 2) rfl)))
  have ny := null_v (Cond.before_iff.mp (hsets _ (List.mem_of_getElem? (i := 3) rfl)))
  have Y1 : Fld s s.heap e0 "java/util/Optional" "value" "Ljava/lang/Object;" .null := Fld.start ((fld_at ee).symm.trans ny)
  obtain ⟨n, o, h1, h2, h3, v, L, Ts', Li', rfl, hq, hls, N, hws, hE⟩ := c_law hw p0 p1 p2 p3 p4 p5 z hz O2 [] hcw ⟨[], rfl, (fun _ q => nomatch q), Or.inl (by decide)⟩ hh e0 S1 X1 Y1 l tables_1 p e ha hc hk s m _ below hf ((Spec.applies_iff_loose hf).mp happ).1 ⟨rfl, State.Warmed39.refl s, rfl, ⟨Nat.le_refl _, fun _ _ q => q⟩, LS.start⟩ trivial
  obtain rfl := hq
  refine ⟨n, _, h1, h2, h3, hpost _ _ _ _ _ _ ⟨Cond.after_iff.mpr rfl, Cond.after_iff.mpr (eq_i res_at (Term.int_eval (1)) rfl), trivial⟩ ⟨hE.1, hE.2.1, hE.2.2.1, (hE.2.2.2.sift fun y hy => Or.inr (N y hy)).mono (by decide) (by decide)⟩⟩
theorem main_1_1 : Claimed_1_1 := comes_1 fun _ _ _ _ _ _ h hF => ⟨h.1, hF⟩
theorem main_1_2 : Claimed_1_2 := comes_1 fun _ _ _ _ _ _ h hF => ⟨h.2.1, hF⟩
end Jvm.Pilot.@@N@@
namespace Jvm.Pilot.@@N@@
open Jvm Jvm.ClassFile Sem Op Lib Jvm.Free Jvm.Stand Jvm.Pilot.@@N@@.Jvm.D
/-! MADE BY PROGRAM (witnessworld.py) out of the Statement's table words and the real class files: 23 classes; the members and pool entries that the words name. The judged class is class 1, her method 1. -/
namespace start1
open Jvm.ClassFile
def u (s : String) : CpInfo := .utf8 (stringToUtf16 s)
/-- a pool by its gaps: so many unusable entries, then the entry; so many at the end -/
def gap : Nat → List CpInfo → List CpInfo
  | 0, r => r
  | n + 1, r => .unusable :: gap n r
def poolList (es : List (Nat × CpInfo)) (last : Nat) : List CpInfo := es.foldr (fun e r => gap e.1 (e.2 :: r)) (gap last [])
def pool (es : List (Nat × CpInfo)) (last : Nat) : Array CpInfo := ⟨poolList es last⟩
def fileOf (pool : Array CpInfo) (this : Nat) (attrs : Array Attribute := #[]) (ms : Array MethodInfo := #[]) (fl : Nat := 33) (sup : Nat := 0) (ifs : Array Nat := #[]) (fds : Array FieldInfo := #[]) : ClassFile where
  minorVersion := 0
  majorVersion := 65
  constantPool := pool
  accessFlags := fl
  thisClass := this
  superClass := sup
  interfaces := ifs
  fields := fds
  methods := ms
  attributes := attrs
def plain (name : String) (sup : Option ClassId) : Class where
  name := name
  kind := .ordinary
  loader := none
  accessFlags := 33
  super := sup
  interfaces := #[]
  cf := none
  fields := #[]
  methods := #[]
  instanceTypes := #[]
  staticTypes := #[]
  resolved := #[]
  callSites := []
  init := .initialized
  statics := none
  mirror := none

def pool0 : Array CpInfo := pool [(5, u "<init>"), (0, u "()V"), (1, .class_ 10), (1, u "java/lang/Object")] 113

def k0c0 : Code := { maxStack := 0, maxLocals := 1, code := object_method_1_code, exceptionTable := #[], attributes := #[] }
def k0m0 : Method := { name := "<init>", desc := "()V", sig := { parameters := [], returnType := none }, accessFlags := 1, code := some k0c0 }
/-- java/lang/Object -/
def k0 : Class := { plain "java/lang/Object" none with
  accessFlags := 33
  interfaces := #[]
  cf := some (fileOf pool0 8 #[] #[{ accessFlags := 1, nameIndex := 5, descriptorIndex := 6, attributes := #[] }] 33 0 #[] #[])
  fields := #[]
  methods := #[k0m0]
  instanceTypes := #[]
  staticTypes := #[]
  resolved := Array.replicate 124 none
  statics := none }

def pool1 : Array CpInfo := pool [(2, .class_ 4), (1, u "java/lang/Object"), (0, u "<init>"), (0, u "()V"), (0, .methodref 8 9), (0, .class_ 10), (0, .nameAndType 11 12), (0, u "com/example/discern/discern/UriReferenceWithoutFragmentPinLaw"), (0, u "opt"), (0, u "(ZI)Ljava/util/Optional;"), (0, .methodref 8 14), (0, .nameAndType 15 16), (0, u "str"), (0, u "(I)Ljava/lang/String;"), (0, .class_ 18), (0, u "com/example/discern/discern/UriReference"), (0, .methodref 17 20), (0, .nameAndType 5 21), (0, u "(Ljava/util/Optional;Ljava/util/Optional;Ljava/lang/String;Ljava/util/Optional;Ljava/util/Optional;)V"), (0, .methodref 17 23), (0, .nameAndType 24 25), (0, u "withoutFragment"), (0, u "()Lcom/example/discern/discern/UriReference;"), (0, .methodref 17 27), (0, .nameAndType 28 29), (0, u "scheme"), (0, u "()Ljava/util/Optional;"), (0, .methodref 31 32), (0, .class_ 33), (0, .nameAndType 34 35), (0, u "java/util/Optional"), (0, u "equals"), (0, u "(Ljava/lang/Object;)Z"), (0, .methodref 17 37), (0, .nameAndType 38 29), (0, u "authority"), (0, .methodref 17 40), (0, .nameAndType 41 42), (0, u "path"), (0, u "()Ljava/lang/String;"), (0, .methodref 44 32), (0, .class_ 45), (0, u "java/lang/String"), (0, .methodref 17 47), (0, .nameAndType 48 29), (0, u "query"), (0, .methodref 17 50), (0, .nameAndType 51 29), (0, u "fragment"), (0, .methodref 31 53), (0, .nameAndType 54 55), (0, u "isPresent"), (0, u "()Z"), (0, .methodref 31 57), (0, .nameAndType 58 59), (0, u "of"), (0, u "(Ljava/lang/Object;)Ljava/util/Optional;"), (0, .methodref 31 61), (0, .nameAndType 62 29), (0, u "empty"), (0, .methodref 44 64), (0, .nameAndType 5 65), (0, u "([C)V"), (0, .methodref 44 67), (0, .nameAndType 68 69), (0, u "valueOf"), (0, u "(C)Ljava/lang/String;"), (2, u "law"), (0, u "(IIIIII)Z")] 5

def k1m0 : Method := { name := "<init>", desc := "()V", sig := { parameters := [], returnType := none }, accessFlags := 1, code := none }
def k1c1 : Code := { maxStack := 7, maxLocals := 13, code := code, exceptionTable := #[], attributes := #[] }
def k1m1 : Method := { name := "law", desc := "(IIIIII)Z", sig := { parameters := [.int, .int, .int, .int, .int, .int], returnType := some .boolean }, accessFlags := 9, code := some k1c1 }
def k1c2 : Code := { maxStack := 1, maxLocals := 2, code := method_3_code, exceptionTable := #[], attributes := #[] }
def k1m2 : Method := { name := "opt", desc := "(ZI)Ljava/util/Optional;", sig := { parameters := [.boolean, .int], returnType := some (.object "java/util/Optional") }, accessFlags := 10, code := some k1c2 }
def k1c3 : Code := { maxStack := 3, maxLocals := 5, code := method_4_code, exceptionTable := #[], attributes := #[] }
def k1m3 : Method := { name := "str", desc := "(I)Ljava/lang/String;", sig := { parameters := [.int], returnType := some (.object "java/lang/String") }, accessFlags := 10, code := some k1c3 }
/-- com/example/discern/discern/UriReferenceWithoutFragmentPinLaw -/
def k1 : Class := { plain "com/example/discern/discern/UriReferenceWithoutFragmentPinLaw" (some 0) with
  accessFlags := 49
  interfaces := #[]
  cf := some (fileOf pool1 8 #[] #[{ accessFlags := 1, nameIndex := 5, descriptorIndex := 6, attributes := #[] }, { accessFlags := 9, nameIndex := 72, descriptorIndex := 73, attributes := #[] }, { accessFlags := 10, nameIndex := 11, descriptorIndex := 12, attributes := #[] }, { accessFlags := 10, nameIndex := 15, descriptorIndex := 16, attributes := #[] }] 49 2 #[] #[])
  fields := #[]
  methods := #[k1m0, k1m1, k1m2, k1m3]
  instanceTypes := #[]
  staticTypes := #[]
  resolved := Array.replicate 79 none
  statics := none }

def pool2 : Array CpInfo := pool [(1, .fieldref 2 3), (0, .class_ 4), (0, .nameAndType 5 6), (0, u "java/util/Optional"), (0, u "EMPTY"), (0, u "Ljava/util/Optional;"), (0, .methodref 8 9), (0, .class_ 10), (0, .nameAndType 11 12), (0, u "java/lang/Object"), (0, u "<init>"), (0, u "()V"), (0, .fieldref 2 14), (0, .nameAndType 15 16), (0, u "value"), (0, u "Ljava/lang/Object;"), (0, .methodref 18 19), (0, .class_ 20), (0, .nameAndType 21 22), (0, u "java/util/Objects"), (0, u "requireNonNull"), (0, u "(Ljava/lang/Object;)Ljava/lang/Object;"), (0, .methodref 2 24), (0, .nameAndType 11 25), (0, u "(Ljava/lang/Object;)V"), (20, u "()Z"), (5, u "(Ljava/lang/Object;)Z"), (2, u "empty"), (0, u "()Ljava/util/Optional;"), (8, u "(Ljava/lang/Object;)Ljava/util/Optional;"), (2, u "isPresent"), (13, u "of"), (5, u "equals")] 98

def k2c0 : Code := { maxStack := 1, maxLocals := 1, code := jdk_32_method_1_code, exceptionTable := #[], attributes := #[] }
def k2m0 : Method := { name := "empty", desc := "()Ljava/util/Optional;", sig := { parameters := [], returnType := some (.object "java/util/Optional") }, accessFlags := 9, code := some k2c0 }
def k2c1 : Code := { maxStack := 2, maxLocals := 2, code := jdk_32_method_2_code, exceptionTable := #[], attributes := #[] }
def k2m1 : Method := { name := "<init>", desc := "(Ljava/lang/Object;)V", sig := { parameters := [(.object "java/lang/Object")], returnType := none }, accessFlags := 2, code := some k2c1 }
def k2c2 : Code := { maxStack := 3, maxLocals := 1, code := jdk_32_method_3_code, exceptionTable := #[], attributes := #[] }
def k2m2 : Method := { name := "of", desc := "(Ljava/lang/Object;)Ljava/util/Optional;", sig := { parameters := [(.object "java/lang/Object")], returnType := some (.object "java/util/Optional") }, accessFlags := 9, code := some k2c2 }
def k2c3 : Code := { maxStack := 1, maxLocals := 1, code := jdk_32_method_6_code, exceptionTable := #[], attributes := #[] }
def k2m3 : Method := { name := "isPresent", desc := "()Z", sig := { parameters := [], returnType := some .boolean }, accessFlags := 1, code := some k2c3 }
def k2c4 : Code := { maxStack := 2, maxLocals := 3, code := jdk_32_method_19_code, exceptionTable := #[], attributes := #[] }
def k2m4 : Method := { name := "equals", desc := "(Ljava/lang/Object;)Z", sig := { parameters := [(.object "java/lang/Object")], returnType := some .boolean }, accessFlags := 1, code := some k2c4 }
/-- java/util/Optional -/
def k2 : Class := { plain "java/util/Optional" (some 0) with
  accessFlags := 49
  interfaces := #[]
  cf := some (fileOf pool2 2 #[] #[{ accessFlags := 9, nameIndex := 55, descriptorIndex := 56, attributes := #[] }, { accessFlags := 2, nameIndex := 11, descriptorIndex := 25, attributes := #[] }, { accessFlags := 9, nameIndex := 82, descriptorIndex := 65, attributes := #[] }, { accessFlags := 1, nameIndex := 68, descriptorIndex := 46, attributes := #[] }, { accessFlags := 1, nameIndex := 88, descriptorIndex := 52, attributes := #[] }] 49 8 #[] #[{ accessFlags := 26, nameIndex := 5, descriptorIndex := 6, attributes := #[] }, { accessFlags := 18, nameIndex := 15, descriptorIndex := 16, attributes := #[] }])
  fields := #[{ name := "EMPTY", type := (.object "java/util/Optional"), accessFlags := 26, slot := 0, constantValue := 0 }, { name := "value", type := (.object "java/lang/Object"), accessFlags := 18, slot := 0, constantValue := 0 }]
  methods := #[k2m0, k2m1, k2m2, k2m3, k2m4]
  instanceTypes := #[(.object "java/lang/Object")]
  staticTypes := #[(.object "java/util/Optional")]
  resolved := Array.replicate 187 none
  statics := some 0 }

def pool3 : Array CpInfo := pool [(1, .class_ 2), (0, u "java/io/Serializable"), (0, .class_ 4), (0, u "java/lang/Object")] 2

/-- java/io/Serializable -/
def k3 : Class := { plain "java/io/Serializable" (some 0) with
  accessFlags := 1537
  interfaces := #[]
  cf := some (fileOf pool3 1 #[] #[] 1537 3 #[] #[])
  fields := #[]
  methods := #[]
  instanceTypes := #[]
  staticTypes := #[]
  resolved := Array.replicate 7 none
  statics := none }

def pool4 : Array CpInfo := pool [(1, .class_ 2), (0, u "java/lang/Comparable"), (0, .class_ 4), (0, u "java/lang/Object")] 7

/-- java/lang/Comparable -/
def k4 : Class := { plain "java/lang/Comparable" (some 0) with
  accessFlags := 1537
  interfaces := #[]
  cf := some (fileOf pool4 1 #[] #[] 1537 3 #[] #[])
  fields := #[]
  methods := #[]
  instanceTypes := #[]
  staticTypes := #[]
  resolved := Array.replicate 12 none
  statics := none }

def pool5 : Array CpInfo := pool [(2, .class_ 4), (1, u "java/lang/CharSequence"), (42, .class_ 48), (0, u "java/lang/CharSequence$1CodePointIterator"), (10, .class_ 60), (0, u "java/lang/CharSequence$1CharIterator"), (5, .class_ 67), (0, u "java/lang/Object")] 63

/-- java/lang/CharSequence -/
def k5 : Class := { plain "java/lang/CharSequence" (some 0) with
  accessFlags := 1537
  interfaces := #[]
  cf := some (fileOf pool5 2 #[.nestMembers #[47, 59]] #[] 1537 66 #[] #[])
  fields := #[]
  methods := #[]
  instanceTypes := #[]
  staticTypes := #[]
  resolved := Array.replicate 131 none
  statics := none }

def pool6 : Array CpInfo := pool [(1, .class_ 2), (0, u "java/lang/constant/Constable"), (0, .class_ 4), (0, u "java/lang/Object")] 6

/-- java/lang/constant/Constable -/
def k6 : Class := { plain "java/lang/constant/Constable" (some 0) with
  accessFlags := 1537
  interfaces := #[]
  cf := some (fileOf pool6 1 #[] #[] 1537 3 #[] #[])
  fields := #[]
  methods := #[]
  instanceTypes := #[]
  staticTypes := #[]
  resolved := Array.replicate 11 none
  statics := none }

def pool7 : Array CpInfo := pool [(1, .class_ 2), (0, u "java/lang/constant/ConstantDesc"), (0, .class_ 4), (0, u "java/lang/Object")] 32

/-- java/lang/constant/ConstantDesc -/
def k7 : Class := { plain "java/lang/constant/ConstantDesc" (some 0) with
  accessFlags := 1537
  interfaces := #[]
  cf := some (fileOf pool7 1 #[] #[] 1537 3 #[] #[])
  fields := #[]
  methods := #[]
  instanceTypes := #[]
  staticTypes := #[]
  resolved := Array.replicate 37 none
  statics := none }

def pool8 : Array CpInfo := pool [(1, .methodref 2 3), (0, .class_ 4), (0, .nameAndType 5 6), (0, u "java/lang/Object"), (0, u "<init>"), (0, u "()V"), (0, .string 8), (0, u ""), (0, .fieldref 10 11), (0, .class_ 12), (0, .nameAndType 13 14), (0, u "java/lang/String"), (0, u "value"), (0, u "[B"), (0, .fieldref 10 16), (0, .nameAndType 17 18), (0, u "coder"), (0, u "B"), (2, u "hash"), (0, u "I"), (2, u "hashIsZero"), (0, u "Z"), (0, .methodref 10 28), (0, .nameAndType 5 29), (0, u "([CIILjava/lang/Void;)V"), (8, .fieldref 10 39), (0, .nameAndType 40 26), (0, u "COMPACT_STRINGS"), (1, .class_ 44), (1, u "java/lang/StringUTF16"), (0, u "compress"), (1, .methodref 42 48), (0, .nameAndType 49 50), (0, u "coderFromArrayLen"), (0, u "([BI)B"), (2, u "toBytes"), (53, .class_ 109), (1, u "java/lang/StringLatin1"), (67, .methodref 42 178), (0, .nameAndType 45 179), (0, u "([CII)[B"), (29, .methodref 10 210), (0, .nameAndType 5 211), (0, u "([BB)V"), (157, u "(C)Z"), (173, u "equals"), (29, u "(Ljava/lang/Object;)Z"), (1, .class_ 576), (0, u "java/lang/CharSequence"), (22, u "CASE_INSENSITIVE_ORDER"), (0, u "Ljava/util/Comparator;"), (181, u "valueOf"), (0, u "(C)Ljava/lang/String;"), (226, u "([C)V"), (4, .methodref 107 1016), (0, .nameAndType 1017 369), (0, u "canEncode"), (0, .methodref 107 1019), (0, .nameAndType 53 1020), (0, u "(C)[B"), (80, u "serialPersistentFields"), (0, u "[Ljava/io/ObjectStreamField;"), (0, .class_ 1104), (0, u "java/lang/String$CaseInsensitiveComparator"), (1, .class_ 1107), (0, u "java/io/Serializable"), (0, .class_ 1109), (0, u "java/lang/Comparable"), (0, .class_ 1111), (0, u "java/lang/constant/Constable"), (0, .class_ 1113), (0, u "java/lang/constant/ConstantDesc"), (2, u "serialVersionUID"), (0, u "J"), (3, u "REPL"), (0, u "C"), (2, u "LATIN1"), (1, u "UTF16")] 323

def k8m0 : Method := { name := "<init>", desc := "()V", sig := { parameters := [], returnType := none }, accessFlags := 1, code := none }
def k8c1 : Code := { maxStack := 5, maxLocals := 2, code := jdk_42_method_3_code, exceptionTable := #[], attributes := #[] }
def k8m1 : Method := { name := "<init>", desc := "([C)V", sig := { parameters := [(.array .char)], returnType := none }, accessFlags := 1, code := some k8c1 }
def k8c2 : Code := { maxStack := 2, maxLocals := 3, code := jdk_42_method_66_code, exceptionTable := #[], attributes := #[] }
def k8m2 : Method := { name := "equals", desc := "(Ljava/lang/Object;)Z", sig := { parameters := [(.object "java/lang/Object")], returnType := some .boolean }, accessFlags := 1, code := some k8c2 }
def k8c3 : Code := { maxStack := 4, maxLocals := 1, code := jdk_42_method_139_code, exceptionTable := #[], attributes := #[] }
def k8m3 : Method := { name := "valueOf", desc := "(C)Ljava/lang/String;", sig := { parameters := [.char], returnType := some (.object "java/lang/String") }, accessFlags := 9, code := some k8c3 }
def k8c4 : Code := { maxStack := 4, maxLocals := 6, code := jdk_42_method_149_code, exceptionTable := #[], attributes := #[] }
def k8m4 : Method := { name := "<init>", desc := "([CIILjava/lang/Void;)V", sig := { parameters := [(.array .char), .int, .int, (.object "java/lang/Void")], returnType := none }, accessFlags := 2, code := some k8c4 }
def k8c5 : Code := { maxStack := 2, maxLocals := 3, code := jdk_42_method_151_code, exceptionTable := #[], attributes := #[] }
def k8m5 : Method := { name := "<init>", desc := "([BB)V", sig := { parameters := [(.array .byte), .byte], returnType := none }, accessFlags := 0, code := some k8c5 }
/-- java/lang/String -/
def k8 : Class := { plain "java/lang/String" (some 0) with
  accessFlags := 49
  interfaces := #[3, 4, 5, 6, 7]
  cf := some (fileOf pool8 10 #[.nestMembers #[1103]] #[{ accessFlags := 1, nameIndex := 5, descriptorIndex := 6, attributes := #[] }, { accessFlags := 1, nameIndex := 5, descriptorIndex := 1010, attributes := #[] }, { accessFlags := 1, nameIndex := 543, descriptorIndex := 573, attributes := #[] }, { accessFlags := 9, nameIndex := 782, descriptorIndex := 783, attributes := #[] }, { accessFlags := 2, nameIndex := 5, descriptorIndex := 29, attributes := #[] }, { accessFlags := 0, nameIndex := 5, descriptorIndex := 211, attributes := #[] }] 49 2 #[1106, 1108, 575, 1110, 1112] #[{ accessFlags := 18, nameIndex := 13, descriptorIndex := 14, attributes := #[] }, { accessFlags := 18, nameIndex := 17, descriptorIndex := 18, attributes := #[] }, { accessFlags := 2, nameIndex := 21, descriptorIndex := 22, attributes := #[] }, { accessFlags := 2, nameIndex := 25, descriptorIndex := 26, attributes := #[] }, { accessFlags := 26, nameIndex := 1116, descriptorIndex := 1117, attributes := #[] }, { accessFlags := 24, nameIndex := 40, descriptorIndex := 26, attributes := #[] }, { accessFlags := 26, nameIndex := 1101, descriptorIndex := 1102, attributes := #[] }, { accessFlags := 26, nameIndex := 1121, descriptorIndex := 1122, attributes := #[] }, { accessFlags := 25, nameIndex := 599, descriptorIndex := 600, attributes := #[] }, { accessFlags := 24, nameIndex := 1125, descriptorIndex := 18, attributes := #[] }, { accessFlags := 24, nameIndex := 1127, descriptorIndex := 18, attributes := #[] }])
  fields := #[{ name := "value", type := (.array .byte), accessFlags := 18, slot := 0, constantValue := 0 }, { name := "coder", type := .byte, accessFlags := 18, slot := 1, constantValue := 0 }, { name := "hash", type := .int, accessFlags := 2, slot := 2, constantValue := 0 }, { name := "hashIsZero", type := .boolean, accessFlags := 2, slot := 3, constantValue := 0 }, { name := "serialVersionUID", type := .long, accessFlags := 26, slot := 0, constantValue := 0 }, { name := "COMPACT_STRINGS", type := .boolean, accessFlags := 24, slot := 1, constantValue := 0 }, { name := "serialPersistentFields", type := (.array (.object "java/io/ObjectStreamField")), accessFlags := 26, slot := 2, constantValue := 0 }, { name := "REPL", type := .char, accessFlags := 26, slot := 3, constantValue := 0 }, { name := "CASE_INSENSITIVE_ORDER", type := (.object "java/util/Comparator"), accessFlags := 25, slot := 4, constantValue := 0 }, { name := "LATIN1", type := .byte, accessFlags := 24, slot := 5, constantValue := 0 }, { name := "UTF16", type := .byte, accessFlags := 24, slot := 6, constantValue := 0 }]
  methods := #[k8m0, k8m1, k8m2, k8m3, k8m4, k8m5]
  instanceTypes := #[(.array .byte), .byte, .int, .boolean]
  staticTypes := #[.long, .boolean, (.array (.object "java/io/ObjectStreamField")), .char, (.object "java/util/Comparator"), .byte, .byte]
  resolved := Array.replicate 1451 none
  statics := some 1 }

def pool9 : Array CpInfo := pool [(1, .methodref 2 3), (0, .class_ 4), (0, .nameAndType 5 6), (0, u "java/lang/Object"), (0, u "<init>"), (0, u "()V"), (0, .class_ 8), (0, u "java/lang/Record")] 13

def k9c0 : Code := { maxStack := 1, maxLocals := 1, code := jdk_30_method_1_code, exceptionTable := #[], attributes := #[] }
def k9m0 : Method := { name := "<init>", desc := "()V", sig := { parameters := [], returnType := none }, accessFlags := 4, code := some k9c0 }
/-- java/lang/Record -/
def k9 : Class := { plain "java/lang/Record" (some 0) with
  accessFlags := 1057
  interfaces := #[]
  cf := some (fileOf pool9 7 #[] #[{ accessFlags := 4, nameIndex := 5, descriptorIndex := 6, attributes := #[] }] 1057 2 #[] #[])
  fields := #[]
  methods := #[k9m0]
  instanceTypes := #[]
  staticTypes := #[]
  resolved := Array.replicate 22 none
  statics := none }

def pool10 : Array CpInfo := pool [(1, .methodref 2 3), (0, .class_ 4), (0, .nameAndType 5 6), (0, u "java/lang/Record"), (0, u "<init>"), (0, u "()V"), (0, .fieldref 8 9), (0, .class_ 10), (0, .nameAndType 11 12), (0, u "com/example/discern/discern/UriReference"), (0, u "scheme"), (0, u "Ljava/util/Optional;"), (0, .fieldref 8 14), (0, .nameAndType 15 12), (0, u "authority"), (0, .fieldref 8 17), (0, .nameAndType 18 19), (0, u "path"), (0, u "Ljava/lang/String;"), (0, .fieldref 8 21), (0, .nameAndType 22 12), (0, u "query"), (0, .fieldref 8 24), (0, .nameAndType 25 12), (0, u "fragment"), (6, u "BAD_ESCAPE"), (0, u "Ljava/util/regex/Pattern;"), (27, u "COMPONENTS"), (5, u "SCHEME"), (15, u "PATH"), (2, .class_ 88), (1, u "java/util/Optional"), (6, u "QUERY_OR_FRAGMENT"), (2, .methodref 8 99), (0, .nameAndType 5 100), (0, u "(Ljava/util/Optional;Ljava/util/Optional;Ljava/lang/String;Ljava/util/Optional;Ljava/util/Optional;)V"), (10, .class_ 112), (0, u "com/example/discern/discern/UriReference$Target"), (21, u "()Lcom/example/discern/discern/UriReference;"), (0, .methodref 86 136), (0, .nameAndType 137 138), (0, u "empty"), (0, u "()Ljava/util/Optional;"), (21, u "()Ljava/lang/String;"), (82, u "HEX"), (0, u "Ljava/util/HexFormat;"), (47, u "USERINFO"), (10, u "PORT"), (5, u "IPV_FUTURE"), (2, u "REG_NAME"), (20, u "H16"), (2, u "IPV4_ADDRESS"), (57, u "UNRESERVED"), (3, u "SUB_DELIMS"), (2, u "DEC_OCTET"), (2, u "NEVER_IN_URI"), (10, u "withoutFragment")] 78

def k10c0 : Code := { maxStack := 2, maxLocals := 6, code := prog_53_method_1_code, exceptionTable := #[], attributes := #[] }
def k10m0 : Method := { name := "<init>", desc := "(Ljava/util/Optional;Ljava/util/Optional;Ljava/lang/String;Ljava/util/Optional;Ljava/util/Optional;)V", sig := { parameters := [(.object "java/util/Optional"), (.object "java/util/Optional"), (.object "java/lang/String"), (.object "java/util/Optional"), (.object "java/util/Optional")], returnType := none }, accessFlags := 0, code := some k10c0 }
def k10c1 : Code := { maxStack := 7, maxLocals := 1, code := prog_53_method_5_code, exceptionTable := #[], attributes := #[] }
def k10m1 : Method := { name := "withoutFragment", desc := "()Lcom/example/discern/discern/UriReference;", sig := { parameters := [], returnType := some (.object "com/example/discern/discern/UriReference") }, accessFlags := 0, code := some k10c1 }
def k10c2 : Code := { maxStack := 1, maxLocals := 1, code := prog_53_method_18_code, exceptionTable := #[], attributes := #[] }
def k10m2 : Method := { name := "scheme", desc := "()Ljava/util/Optional;", sig := { parameters := [], returnType := some (.object "java/util/Optional") }, accessFlags := 1, code := some k10c2 }
def k10c3 : Code := { maxStack := 1, maxLocals := 1, code := prog_53_method_19_code, exceptionTable := #[], attributes := #[] }
def k10m3 : Method := { name := "authority", desc := "()Ljava/util/Optional;", sig := { parameters := [], returnType := some (.object "java/util/Optional") }, accessFlags := 1, code := some k10c3 }
def k10c4 : Code := { maxStack := 1, maxLocals := 1, code := prog_53_method_20_code, exceptionTable := #[], attributes := #[] }
def k10m4 : Method := { name := "path", desc := "()Ljava/lang/String;", sig := { parameters := [], returnType := some (.object "java/lang/String") }, accessFlags := 1, code := some k10c4 }
def k10c5 : Code := { maxStack := 1, maxLocals := 1, code := prog_53_method_21_code, exceptionTable := #[], attributes := #[] }
def k10m5 : Method := { name := "query", desc := "()Ljava/util/Optional;", sig := { parameters := [], returnType := some (.object "java/util/Optional") }, accessFlags := 1, code := some k10c5 }
def k10c6 : Code := { maxStack := 1, maxLocals := 1, code := prog_53_method_22_code, exceptionTable := #[], attributes := #[] }
def k10m6 : Method := { name := "fragment", desc := "()Ljava/util/Optional;", sig := { parameters := [], returnType := some (.object "java/util/Optional") }, accessFlags := 1, code := some k10c6 }
/-- com/example/discern/discern/UriReference -/
def k10 : Class := { plain "com/example/discern/discern/UriReference" (some 9) with
  accessFlags := 48
  interfaces := #[]
  cf := some (fileOf pool10 8 #[.nestMembers #[111]] #[{ accessFlags := 0, nameIndex := 5, descriptorIndex := 100, attributes := #[] }, { accessFlags := 0, nameIndex := 415, descriptorIndex := 134, attributes := #[] }, { accessFlags := 1, nameIndex := 11, descriptorIndex := 138, attributes := #[] }, { accessFlags := 1, nameIndex := 15, descriptorIndex := 138, attributes := #[] }, { accessFlags := 1, nameIndex := 18, descriptorIndex := 160, attributes := #[] }, { accessFlags := 1, nameIndex := 22, descriptorIndex := 138, attributes := #[] }, { accessFlags := 1, nameIndex := 25, descriptorIndex := 138, attributes := #[] }] 48 2 #[] #[{ accessFlags := 18, nameIndex := 11, descriptorIndex := 12, attributes := #[] }, { accessFlags := 18, nameIndex := 15, descriptorIndex := 12, attributes := #[] }, { accessFlags := 18, nameIndex := 18, descriptorIndex := 19, attributes := #[] }, { accessFlags := 18, nameIndex := 22, descriptorIndex := 12, attributes := #[] }, { accessFlags := 18, nameIndex := 25, descriptorIndex := 12, attributes := #[] }, { accessFlags := 26, nameIndex := 61, descriptorIndex := 33, attributes := #[] }, { accessFlags := 26, nameIndex := 394, descriptorIndex := 19, attributes := #[] }, { accessFlags := 26, nameIndex := 398, descriptorIndex := 19, attributes := #[] }, { accessFlags := 26, nameIndex := 32, descriptorIndex := 33, attributes := #[] }, { accessFlags := 26, nameIndex := 67, descriptorIndex := 33, attributes := #[] }, { accessFlags := 26, nameIndex := 83, descriptorIndex := 33, attributes := #[] }, { accessFlags := 26, nameIndex := 95, descriptorIndex := 33, attributes := #[] }, { accessFlags := 26, nameIndex := 292, descriptorIndex := 33, attributes := #[] }, { accessFlags := 26, nameIndex := 312, descriptorIndex := 33, attributes := #[] }, { accessFlags := 26, nameIndex := 303, descriptorIndex := 33, attributes := #[] }, { accessFlags := 26, nameIndex := 309, descriptorIndex := 33, attributes := #[] }, { accessFlags := 26, nameIndex := 333, descriptorIndex := 33, attributes := #[] }, { accessFlags := 26, nameIndex := 401, descriptorIndex := 19, attributes := #[] }, { accessFlags := 26, nameIndex := 336, descriptorIndex := 33, attributes := #[] }, { accessFlags := 26, nameIndex := 404, descriptorIndex := 19, attributes := #[] }, { accessFlags := 26, nameIndex := 243, descriptorIndex := 244, attributes := #[] }])
  fields := #[{ name := "scheme", type := (.object "java/util/Optional"), accessFlags := 18, slot := 0, constantValue := 0 }, { name := "authority", type := (.object "java/util/Optional"), accessFlags := 18, slot := 1, constantValue := 0 }, { name := "path", type := (.object "java/lang/String"), accessFlags := 18, slot := 2, constantValue := 0 }, { name := "query", type := (.object "java/util/Optional"), accessFlags := 18, slot := 3, constantValue := 0 }, { name := "fragment", type := (.object "java/util/Optional"), accessFlags := 18, slot := 4, constantValue := 0 }, { name := "COMPONENTS", type := (.object "java/util/regex/Pattern"), accessFlags := 26, slot := 0, constantValue := 0 }, { name := "UNRESERVED", type := (.object "java/lang/String"), accessFlags := 26, slot := 1, constantValue := 0 }, { name := "SUB_DELIMS", type := (.object "java/lang/String"), accessFlags := 26, slot := 2, constantValue := 0 }, { name := "BAD_ESCAPE", type := (.object "java/util/regex/Pattern"), accessFlags := 26, slot := 3, constantValue := 0 }, { name := "SCHEME", type := (.object "java/util/regex/Pattern"), accessFlags := 26, slot := 4, constantValue := 0 }, { name := "PATH", type := (.object "java/util/regex/Pattern"), accessFlags := 26, slot := 5, constantValue := 0 }, { name := "QUERY_OR_FRAGMENT", type := (.object "java/util/regex/Pattern"), accessFlags := 26, slot := 6, constantValue := 0 }, { name := "USERINFO", type := (.object "java/util/regex/Pattern"), accessFlags := 26, slot := 7, constantValue := 0 }, { name := "REG_NAME", type := (.object "java/util/regex/Pattern"), accessFlags := 26, slot := 8, constantValue := 0 }, { name := "PORT", type := (.object "java/util/regex/Pattern"), accessFlags := 26, slot := 9, constantValue := 0 }, { name := "IPV_FUTURE", type := (.object "java/util/regex/Pattern"), accessFlags := 26, slot := 10, constantValue := 0 }, { name := "H16", type := (.object "java/util/regex/Pattern"), accessFlags := 26, slot := 11, constantValue := 0 }, { name := "DEC_OCTET", type := (.object "java/lang/String"), accessFlags := 26, slot := 12, constantValue := 0 }, { name := "IPV4_ADDRESS", type := (.object "java/util/regex/Pattern"), accessFlags := 26, slot := 13, constantValue := 0 }, { name := "NEVER_IN_URI", type := (.object "java/lang/String"), accessFlags := 26, slot := 14, constantValue := 0 }, { name := "HEX", type := (.object "java/util/HexFormat"), accessFlags := 26, slot := 15, constantValue := 0 }]
  methods := #[k10m0, k10m1, k10m2, k10m3, k10m4, k10m5, k10m6]
  instanceTypes := #[(.object "java/util/Optional"), (.object "java/util/Optional"), (.object "java/lang/String"), (.object "java/util/Optional"), (.object "java/util/Optional")]
  staticTypes := #[(.object "java/util/regex/Pattern"), (.object "java/lang/String"), (.object "java/lang/String"), (.object "java/util/regex/Pattern"), (.object "java/util/regex/Pattern"), (.object "java/util/regex/Pattern"), (.object "java/util/regex/Pattern"), (.object "java/util/regex/Pattern"), (.object "java/util/regex/Pattern"), (.object "java/util/regex/Pattern"), (.object "java/util/regex/Pattern"), (.object "java/util/regex/Pattern"), (.object "java/lang/String"), (.object "java/util/regex/Pattern"), (.object "java/lang/String"), (.object "java/util/HexFormat")]
  resolved := Array.replicate 494 none
  statics := none }

def pool11 : Array CpInfo := pool [(2, .class_ 4), (1, u "java/lang/Object"), (0, u "<init>"), (0, u "()V"), (35, .class_ 44), (1, u "java/util/Objects"), (0, u "requireNonNull"), (0, u "(Ljava/lang/Object;)Ljava/lang/Object;")] 137

def k11m0 : Method := { name := "<init>", desc := "()V", sig := { parameters := [], returnType := none }, accessFlags := 2, code := none }
def k11c1 : Code := { maxStack := 2, maxLocals := 1, code := jdk_31_method_10_code, exceptionTable := #[], attributes := #[] }
def k11m1 : Method := { name := "requireNonNull", desc := "(Ljava/lang/Object;)Ljava/lang/Object;", sig := { parameters := [(.object "java/lang/Object")], returnType := some (.object "java/lang/Object") }, accessFlags := 9, code := some k11c1 }
/-- java/util/Objects -/
def k11 : Class := { plain "java/util/Objects" (some 0) with
  accessFlags := 49
  interfaces := #[]
  cf := some (fileOf pool11 42 #[] #[{ accessFlags := 2, nameIndex := 5, descriptorIndex := 6, attributes := #[] }, { accessFlags := 9, nameIndex := 45, descriptorIndex := 46, attributes := #[] }] 49 2 #[] #[])
  fields := #[]
  methods := #[k11m0, k11m1]
  instanceTypes := #[]
  staticTypes := #[]
  resolved := Array.replicate 184 none
  statics := none }

def pool12 : Array CpInfo := pool [(4, .class_ 6), (1, u "java/lang/Object"), (0, u "<init>"), (0, u "()V"), (5, .class_ 16), (1, u "java/lang/StringLatin1"), (73, u "canEncode"), (14, u "(C)Z"), (15, u "$assertionsDisabled"), (0, u "Z"), (98, .class_ 223), (1, u "java/lang/StringLatin1$LinesSpliterator"), (156, u "toBytes"), (1, u "(C)[B"), (7, .class_ 391), (0, u "java/lang/StringLatin1$CharsSpliterator")] 3

def k12m0 : Method := { name := "<init>", desc := "()V", sig := { parameters := [], returnType := none }, accessFlags := 0, code := none }
def k12c1 : Code := { maxStack := 2, maxLocals := 1, code := jdk_43_method_3_code, exceptionTable := #[], attributes := #[] }
def k12m1 : Method := { name := "canEncode", desc := "(C)Z", sig := { parameters := [.char], returnType := some .boolean }, accessFlags := 9, code := some k12c1 }
def k12c2 : Code := { maxStack := 4, maxLocals := 1, code := jdk_43_method_46_code, exceptionTable := #[], attributes := #[] }
def k12m2 : Method := { name := "toBytes", desc := "(C)[B", sig := { parameters := [.char], returnType := some (.array .byte) }, accessFlags := 9, code := some k12c2 }
/-- java/lang/StringLatin1 -/
def k12 : Class := { plain "java/lang/StringLatin1" (some 0) with
  accessFlags := 48
  interfaces := #[]
  cf := some (fileOf pool12 14 #[.nestMembers #[390, 221]] #[{ accessFlags := 0, nameIndex := 7, descriptorIndex := 8, attributes := #[] }, { accessFlags := 9, nameIndex := 90, descriptorIndex := 105, attributes := #[] }, { accessFlags := 9, nameIndex := 380, descriptorIndex := 382, attributes := #[] }] 48 4 #[] #[{ accessFlags := 4120, nameIndex := 121, descriptorIndex := 122, attributes := #[] }])
  fields := #[{ name := "$assertionsDisabled", type := .boolean, accessFlags := 4120, slot := 0, constantValue := 0 }]
  methods := #[k12m0, k12m1, k12m2]
  instanceTypes := #[]
  staticTypes := #[.boolean]
  resolved := Array.replicate 395 none
  statics := none }

def pool13 : Array CpInfo := pool [(6, .class_ 8), (1, u "java/lang/Object"), (0, u "<init>"), (0, u "()V"), (1, .class_ 14), (1, u "java/lang/StringUTF16"), (31, u "$assertionsDisabled"), (0, u "Z"), (13, u "HI_BYTE_SHIFT"), (0, u "I"), (2, u "LO_BYTE_SHIFT"), (49, .methodref 12 116), (0, .nameAndType 117 118), (0, u "compress"), (0, u "([CI[BII)I"), (3, u "([CII)[B"), (138, u "coderFromArrayLen"), (0, u "([BI)B"), (106, .class_ 371), (1, u "java/lang/StringUTF16$LinesSpliterator"), (58, u "MAX_LENGTH"), (196, .class_ 628), (0, u "java/lang/StringUTF16$CodePointsSpliterator"), (0, .class_ 630), (0, u "java/lang/StringUTF16$CharsSpliterator")] 4

def k13m0 : Method := { name := "<init>", desc := "()V", sig := { parameters := [], returnType := none }, accessFlags := 0, code := none }
def k13c1 : Code := { maxStack := 2, maxLocals := 2, code := jdk_52_method_15_code, exceptionTable := #[], attributes := #[] }
def k13m1 : Method := { name := "coderFromArrayLen", desc := "([BI)B", sig := { parameters := [(.array .byte), .int], returnType := some .byte }, accessFlags := 8, code := some k13c1 }
def k13c2 : Code := { maxStack := 5, maxLocals := 6, code := jdk_52_method_16_code, exceptionTable := #[], attributes := #[] }
def k13m2 : Method := { name := "compress", desc := "([CII)[B", sig := { parameters := [(.array .char), .int, .int], returnType := some (.array .byte) }, accessFlags := 9, code := some k13c2 }
def k13c3 : Code := { maxStack := 3, maxLocals := 7, code := jdk_52_method_21_code, exceptionTable := #[], attributes := #[] }
def k13m3 : Method := { name := "compress", desc := "([CI[BII)I", sig := { parameters := [(.array .char), .int, (.array .byte), .int, .int], returnType := some .int }, accessFlags := 9, code := some k13c3 }
/-- java/lang/StringUTF16 -/
def k13 : Class := { plain "java/lang/StringUTF16" (some 0) with
  accessFlags := 48
  interfaces := #[]
  cf := some (fileOf pool13 12 #[.nestMembers #[627, 629, 369]] #[{ accessFlags := 0, nameIndex := 9, descriptorIndex := 10, attributes := #[] }, { accessFlags := 8, nameIndex := 261, descriptorIndex := 262, attributes := #[] }, { accessFlags := 9, nameIndex := 117, descriptorIndex := 122, attributes := #[] }, { accessFlags := 9, nameIndex := 117, descriptorIndex := 118, attributes := #[] }] 48 6 #[] #[{ accessFlags := 26, nameIndex := 61, descriptorIndex := 62, attributes := #[] }, { accessFlags := 26, nameIndex := 65, descriptorIndex := 62, attributes := #[] }, { accessFlags := 24, nameIndex := 430, descriptorIndex := 62, attributes := #[] }, { accessFlags := 4120, nameIndex := 46, descriptorIndex := 47, attributes := #[] }])
  fields := #[{ name := "HI_BYTE_SHIFT", type := .int, accessFlags := 26, slot := 0, constantValue := 0 }, { name := "LO_BYTE_SHIFT", type := .int, accessFlags := 26, slot := 1, constantValue := 0 }, { name := "MAX_LENGTH", type := .int, accessFlags := 24, slot := 2, constantValue := 0 }, { name := "$assertionsDisabled", type := .boolean, accessFlags := 4120, slot := 3, constantValue := 0 }]
  methods := #[k13m0, k13m1, k13m2, k13m3]
  instanceTypes := #[]
  staticTypes := #[.int, .int, .int, .boolean]
  resolved := Array.replicate 635 none
  statics := none }

def pool14 : Array CpInfo := pool [(2, .class_ 4), (1, u "java/lang/Object"), (0, u "<init>"), (0, u "()V"), (17, .class_ 26), (1, u "jdk/internal/util/Preconditions"), (28, .class_ 56), (0, u "jdk/internal/util/Preconditions$4"), (57, .class_ 115), (0, u "jdk/internal/util/Preconditions$1"), (7, u "SIOOBE_FORMATTER"), (0, u "Ljava/util/function/BiFunction;"), (0, .class_ 126), (0, u "jdk/internal/util/Preconditions$2"), (3, u "AIOOBE_FORMATTER"), (0, .class_ 132), (0, u "jdk/internal/util/Preconditions$3"), (3, u "IOOBE_FORMATTER")] 57

def k14m0 : Method := { name := "<init>", desc := "()V", sig := { parameters := [], returnType := none }, accessFlags := 1, code := none }
/-- jdk/internal/util/Preconditions -/
def k14 : Class := { plain "jdk/internal/util/Preconditions" (some 0) with
  accessFlags := 33
  interfaces := #[]
  cf := some (fileOf pool14 24 #[.nestMembers #[55, 131, 125, 114]] #[{ accessFlags := 1, nameIndex := 5, descriptorIndex := 6, attributes := #[] }] 33 2 #[] #[{ accessFlags := 25, nameIndex := 123, descriptorIndex := 124, attributes := #[] }, { accessFlags := 25, nameIndex := 130, descriptorIndex := 124, attributes := #[] }, { accessFlags := 25, nameIndex := 136, descriptorIndex := 124, attributes := #[] }])
  fields := #[{ name := "SIOOBE_FORMATTER", type := (.object "java/util/function/BiFunction"), accessFlags := 25, slot := 0, constantValue := 0 }, { name := "AIOOBE_FORMATTER", type := (.object "java/util/function/BiFunction"), accessFlags := 25, slot := 1, constantValue := 0 }, { name := "IOOBE_FORMATTER", type := (.object "java/util/function/BiFunction"), accessFlags := 25, slot := 2, constantValue := 0 }]
  methods := #[k14m0]
  instanceTypes := #[]
  staticTypes := #[(.object "java/util/function/BiFunction"), (.object "java/util/function/BiFunction"), (.object "java/util/function/BiFunction")]
  resolved := Array.replicate 194 none
  statics := some 2 }

def pool15 : Array CpInfo := pool [(9, u "<init>"), (6, .class_ 18), (1, u "java/lang/Object"), (0, u "()V"), (1, .class_ 23), (1, u "jdk/internal/util/ArraysSupport"), (0, u "LOG2_ARRAY_LONG_INDEX_SCALE"), (0, u "I"), (2, u "U"), (0, u "Ljdk/internal/misc/Unsafe;"), (8, u "BIG_ENDIAN"), (0, u "Z"), (8, u "LOG2_BYTE_BIT_SIZE"), (4, u "LOG2_ARRAY_INT_INDEX_SCALE"), (54, u "JLA"), (0, u "Ljdk/internal/access/JavaLangAccess;"), (11, u "LOG2_ARRAY_BOOLEAN_INDEX_SCALE"), (9, u "LOG2_ARRAY_BYTE_INDEX_SCALE"), (5, u "LOG2_ARRAY_CHAR_INDEX_SCALE"), (5, u "LOG2_ARRAY_SHORT_INDEX_SCALE"), (18, u "LOG2_ARRAY_FLOAT_INDEX_SCALE"), (24, u "LOG2_ARRAY_DOUBLE_INDEX_SCALE"), (89, u "T_BOOLEAN"), (2, u "T_CHAR"), (1, u "T_FLOAT"), (1, u "T_DOUBLE"), (1, u "T_BYTE"), (1, u "T_SHORT"), (1, u "T_INT"), (1, u "T_LONG"), (1, u "SOFT_MAX_ARRAY_LENGTH")] 83

def k15m0 : Method := { name := "<init>", desc := "()V", sig := { parameters := [], returnType := none }, accessFlags := 2, code := none }
/-- jdk/internal/util/ArraysSupport -/
def k15 : Class := { plain "jdk/internal/util/ArraysSupport" (some 0) with
  accessFlags := 33
  interfaces := #[]
  cf := some (fileOf pool15 21 #[] #[{ accessFlags := 2, nameIndex := 9, descriptorIndex := 19, attributes := #[] }] 33 16 #[] #[{ accessFlags := 24, nameIndex := 28, descriptorIndex := 29, attributes := #[] }, { accessFlags := 26, nameIndex := 38, descriptorIndex := 39, attributes := #[] }, { accessFlags := 25, nameIndex := 121, descriptorIndex := 25, attributes := #[] }, { accessFlags := 25, nameIndex := 131, descriptorIndex := 25, attributes := #[] }, { accessFlags := 25, nameIndex := 137, descriptorIndex := 25, attributes := #[] }, { accessFlags := 25, nameIndex := 143, descriptorIndex := 25, attributes := #[] }, { accessFlags := 25, nameIndex := 53, descriptorIndex := 25, attributes := #[] }, { accessFlags := 25, nameIndex := 24, descriptorIndex := 25, attributes := #[] }, { accessFlags := 25, nameIndex := 162, descriptorIndex := 25, attributes := #[] }, { accessFlags := 25, nameIndex := 187, descriptorIndex := 25, attributes := #[] }, { accessFlags := 26, nameIndex := 48, descriptorIndex := 25, attributes := #[] }, { accessFlags := 25, nameIndex := 277, descriptorIndex := 25, attributes := #[] }, { accessFlags := 25, nameIndex := 280, descriptorIndex := 25, attributes := #[] }, { accessFlags := 25, nameIndex := 282, descriptorIndex := 25, attributes := #[] }, { accessFlags := 25, nameIndex := 284, descriptorIndex := 25, attributes := #[] }, { accessFlags := 25, nameIndex := 286, descriptorIndex := 25, attributes := #[] }, { accessFlags := 25, nameIndex := 288, descriptorIndex := 25, attributes := #[] }, { accessFlags := 25, nameIndex := 290, descriptorIndex := 25, attributes := #[] }, { accessFlags := 25, nameIndex := 292, descriptorIndex := 25, attributes := #[] }, { accessFlags := 26, nameIndex := 108, descriptorIndex := 109, attributes := #[] }, { accessFlags := 25, nameIndex := 294, descriptorIndex := 25, attributes := #[] }])
  fields := #[{ name := "U", type := (.object "jdk/internal/misc/Unsafe"), accessFlags := 24, slot := 0, constantValue := 0 }, { name := "BIG_ENDIAN", type := .boolean, accessFlags := 26, slot := 1, constantValue := 0 }, { name := "LOG2_ARRAY_BOOLEAN_INDEX_SCALE", type := .int, accessFlags := 25, slot := 2, constantValue := 0 }, { name := "LOG2_ARRAY_BYTE_INDEX_SCALE", type := .int, accessFlags := 25, slot := 3, constantValue := 0 }, { name := "LOG2_ARRAY_CHAR_INDEX_SCALE", type := .int, accessFlags := 25, slot := 4, constantValue := 0 }, { name := "LOG2_ARRAY_SHORT_INDEX_SCALE", type := .int, accessFlags := 25, slot := 5, constantValue := 0 }, { name := "LOG2_ARRAY_INT_INDEX_SCALE", type := .int, accessFlags := 25, slot := 6, constantValue := 0 }, { name := "LOG2_ARRAY_LONG_INDEX_SCALE", type := .int, accessFlags := 25, slot := 7, constantValue := 0 }, { name := "LOG2_ARRAY_FLOAT_INDEX_SCALE", type := .int, accessFlags := 25, slot := 8, constantValue := 0 }, { name := "LOG2_ARRAY_DOUBLE_INDEX_SCALE", type := .int, accessFlags := 25, slot := 9, constantValue := 0 }, { name := "LOG2_BYTE_BIT_SIZE", type := .int, accessFlags := 26, slot := 10, constantValue := 0 }, { name := "T_BOOLEAN", type := .int, accessFlags := 25, slot := 11, constantValue := 0 }, { name := "T_CHAR", type := .int, accessFlags := 25, slot := 12, constantValue := 0 }, { name := "T_FLOAT", type := .int, accessFlags := 25, slot := 13, constantValue := 0 }, { name := "T_DOUBLE", type := .int, accessFlags := 25, slot := 14, constantValue := 0 }, { name := "T_BYTE", type := .int, accessFlags := 25, slot := 15, constantValue := 0 }, { name := "T_SHORT", type := .int, accessFlags := 25, slot := 16, constantValue := 0 }, { name := "T_INT", type := .int, accessFlags := 25, slot := 17, constantValue := 0 }, { name := "T_LONG", type := .int, accessFlags := 25, slot := 18, constantValue := 0 }, { name := "JLA", type := (.object "jdk/internal/access/JavaLangAccess"), accessFlags := 26, slot := 19, constantValue := 0 }, { name := "SOFT_MAX_ARRAY_LENGTH", type := .int, accessFlags := 25, slot := 20, constantValue := 0 }]
  methods := #[k15m0]
  instanceTypes := #[]
  staticTypes := #[(.object "jdk/internal/misc/Unsafe"), .boolean, .int, .int, .int, .int, .int, .int, .int, .int, .int, .int, .int, .int, .int, .int, .int, .int, .int, (.object "jdk/internal/access/JavaLangAccess"), .int]
  resolved := Array.replicate 378 none
  statics := none }

def pool16 : Array CpInfo := pool [(1, u "java/lang/Cloneable"), (0, .class_ 1), (0, u "java/lang/Object"), (0, .class_ 3)] 3

/-- java/lang/Cloneable -/
def k16 : Class := { plain "java/lang/Cloneable" (some 0) with
  accessFlags := 1537
  interfaces := #[]
  cf := some (fileOf pool16 2 #[] #[] 1537 4 #[] #[])
  fields := #[]
  methods := #[]
  instanceTypes := #[]
  staticTypes := #[]
  resolved := Array.replicate 8 none
  statics := none }

/-- the primitive byte -/
def k17 : Class := { plain "byte" none with kind := .primitive 'B', accessFlags := 0x411 }
/-- [B -/
def k18 : Class := { plain "[B" (some 0) with kind := .array 17 .byte, interfaces := #[16, 3], accessFlags := 1041 }

/-- the primitive char -/
def k19 : Class := { plain "char" none with kind := .primitive 'C', accessFlags := 0x411 }
/-- [C -/
def k20 : Class := { plain "[C" (some 0) with kind := .array 19 .char, interfaces := #[16, 3], accessFlags := 1041 }

/-- the primitive int -/
def k21 : Class := { plain "int" none with kind := .primitive 'I', accessFlags := 0x411 }
/-- [I -/
def k22 : Class := { plain "[I" (some 0) with kind := .array 21 .int, interfaces := #[16, 3], accessFlags := 1041 }

def heap : Heap := #[{ cls := 2, slots := #[.ref 3], vm := .statics 2 },
  { cls := 8, slots := #[.long 0, .int 1, .null, .int 0, .null, .int 0, .int 0], vm := .statics 8 },
  { cls := 14, slots := #[.null, .null, .null], vm := .statics 14 },
  { cls := 2, slots := #[.null], vm := .none }]
def classes : Array Class := #[k0, k1, k2, k3, k4, k5, k6, k7, k8, k9, k10, k11, k12, k13, k14, k15, k16, k17, k18, k19, k20, k21, k22]
def interned : List (Array UInt16 × Addr) := []
def slotsUsed : Nat := 12
def theMethod : MethodId := ⟨1, 1⟩
def args0 : Array Value := #[.int 5, .int 5, .int 5, .int 5, .int 5, .int 5]
def aboutOver (below : List Frame) : State where
  vm := { classes := classes, interned := interned.toArray }
  heap := heap
  slotsUsed := slotsUsed
  threads := #[{ frames := .invoking theMethod args0 :: below }]
def below0 : List Frame := [.native { method := ⟨0, 0⟩, args := #[] }]
def about1 : State := aboutOver below0
def p0 : Program := .bare "" "" ""
def e0 : Env := launch0.env 0 0 0
theorem w_frames : about1.frames = Frame.invoking theMethod args0 :: below0 := rfl
set_option maxRecDepth 65536 in
theorem w_args : argsFit about1.vm theMethod args0 = true := by decide +kernel
set_option maxRecDepth 65536 in
theorem w_heap : heapFits about1 = true := by decide +kernel
set_option maxRecDepth 65536 in
theorem w_runnable : about1.curStatus? = some .runnable := by decide +kernel
set_option maxRecDepth 65536 in
theorem w_alone : about1.alone = true := by decide +kernel
set_option maxRecDepth 65536 in
theorem w_named : about1.methodNamed? x = some theMethod := by decide +kernel
set_option maxRecDepth 65536 in
theorem w_hears : about1.hears theMethod below0 = true := by decide +kernel
set_option maxRecDepth 65536 in
theorem w_ripe : about1.ripe theMethod args0 below0 = true := by decide +kernel
theorem w_running : about1.status = .running := rfl
set_option maxRecDepth 65536 in
theorem w_room : about1.hasRoom e0.platform room_1 = true :=
  launch0.hasRoom_least _ room_1 (by decide +kernel) (by decide +kernel) (by decide +kernel) (by decide +kernel) (by decide +kernel) (by decide +kernel)
theorem allAtoms_all (ts : List Jvm.Cond) (a : Array Jvm.Value) (st : Jvm.State) : (allAtoms ts).before a st = ts.all (fun c => c.before a st) := by
  induction ts with
  | nil => rfl
  | cons c t ih =>
    show (Jvm.Cond.and c (allAtoms t)).before a st = _
    rw [Jvm.Cond.before_and, ih, List.all_cons]
def words1 : List Jvm.Cond := Jvm.Cond.code x code maxLocals ret :: tables_1
/-- a 'code' word, met by the world's own term for the bytes: nothing is compared byte by byte -/
theorem code_word {y : MethodName} {bytes : ByteArray} {mx : Nat} {rt : Option FieldType} {a : Array Value} {s : State} {m : MethodId} {meth : Method} {c : Code} (h1 : s.methodNamed? y = some m) (h2 : s.vm.method? m = some meth) (h3 : meth.code = some c) (h4 : c.code = bytes)
    (h5 : (c.maxLocals == mx && c.exceptionTable.isEmpty && decide (c.maxStack ≤ mostOperands) && decide (meth.sig.returnType = rt) && !meth.locks && decide (parseMethodDescriptor y.desc = some meth.sig)) = true) : (Jvm.Cond.code y bytes mx rt).before a s = true := by
  simp only [Bool.and_eq_true, beq_iff_eq, Bool.not_eq_true', decide_eq_true_eq] at h5
  obtain ⟨⟨⟨⟨⟨g1, g2⟩, g3⟩, g4⟩, g5⟩, g6⟩ := h5
  simp [Cond.before, Cond.holds, Cond.value, h1, h2, h3, h4, g1, g2, g3, g4, g5, g6]
def isCode : Jvm.Cond → Bool
  | .code _ _ _ _ => true
  | _ => false
theorem all_split {L : List Jvm.Cond} {P : Jvm.Cond → Bool} (h1 : L.all (fun c => isCode c || P c) = true) (h2 : ∀ c ∈ L.filter isCode, P c = true) : L.all P = true := by
  refine List.all_eq_true.mpr fun c hc => ?_
  have h := List.all_eq_true.mp h1 c hc
  rcases Bool.eq_false_or_eq_true (isCode c) with hi | hi
  · exact h2 c (List.mem_filter.mpr ⟨hc, hi⟩)
  · simpa [hi] using h
set_option maxRecDepth 65536 in
theorem w_c0 : (Jvm.Cond.code x code maxLocals ret).before args0 about1 = true := code_word (m := ⟨1, 1⟩) (meth := k1m1) (c := k1c1) (by decide +kernel) rfl rfl rfl (by decide +kernel)
set_option maxRecDepth 65536 in
theorem w_c1 : (Jvm.Cond.code ({ cls := "com/example/discern/discern/UriReferenceWithoutFragmentPinLaw", name := "opt", desc := "(ZI)Ljava/util/Optional;" } : Jvm.MethodName) method_3_code (2 : Nat) (Option.some (Jvm.ClassFile.FieldType.object "java/util/Optional"))).before args0 about1 = true := code_word (m := ⟨1, 2⟩) (meth := k1m2) (c := k1c2) (by decide +kernel) rfl rfl rfl (by decide +kernel)
set_option maxRecDepth 65536 in
theorem w_c2 : (Jvm.Cond.code ({ cls := "java/util/Optional", name := "empty", desc := "()Ljava/util/Optional;" } : Jvm.MethodName) jdk_32_method_1_code (1 : Nat) (Option.some (Jvm.ClassFile.FieldType.object "java/util/Optional"))).before args0 about1 = true := code_word (m := ⟨2, 0⟩) (meth := k2m0) (c := k2c0) (by decide +kernel) rfl rfl rfl (by decide +kernel)
set_option maxRecDepth 65536 in
theorem w_c3 : (Jvm.Cond.code ({ cls := "com/example/discern/discern/UriReferenceWithoutFragmentPinLaw", name := "str", desc := "(I)Ljava/lang/String;" } : Jvm.MethodName) method_4_code (5 : Nat) (Option.some (Jvm.ClassFile.FieldType.object "java/lang/String"))).before args0 about1 = true := code_word (m := ⟨1, 3⟩) (meth := k1m3) (c := k1c3) (by decide +kernel) rfl rfl rfl (by decide +kernel)
set_option maxRecDepth 65536 in
theorem w_c4 : (Jvm.Cond.code ({ cls := "java/lang/String", name := "<init>", desc := "([C)V" } : Jvm.MethodName) jdk_42_method_3_code (2 : Nat) (Option.none : Option Jvm.ClassFile.FieldType)).before args0 about1 = true := code_word (m := ⟨8, 1⟩) (meth := k8m1) (c := k8c1) (by decide +kernel) rfl rfl rfl (by decide +kernel)
set_option maxRecDepth 65536 in
theorem w_c5 : (Jvm.Cond.code ({ cls := "java/lang/String", name := "<init>", desc := "([CIILjava/lang/Void;)V" } : Jvm.MethodName) jdk_42_method_149_code (6 : Nat) (Option.none : Option Jvm.ClassFile.FieldType)).before args0 about1 = true := code_word (m := ⟨8, 4⟩) (meth := k8m4) (c := k8c4) (by decide +kernel) rfl rfl rfl (by decide +kernel)
set_option maxRecDepth 65536 in
theorem w_c6 : (Jvm.Cond.code ({ cls := "java/lang/Object", name := "<init>", desc := "()V" } : Jvm.MethodName) object_method_1_code (1 : Nat) (Option.none : Option Jvm.ClassFile.FieldType)).before args0 about1 = true := code_word (m := ⟨0, 0⟩) (meth := k0m0) (c := k0c0) (by decide +kernel) rfl rfl rfl (by decide +kernel)
set_option maxRecDepth 65536 in
theorem w_c7 : (Jvm.Cond.code ({ cls := "com/example/discern/discern/UriReference", name := "<init>", desc := "(Ljava/util/Optional;Ljava/util/Optional;Ljava/lang/String;Ljava/util/Optional;Ljava/util/Optional;)V" } : Jvm.MethodName) prog_53_method_1_code (6 : Nat) (Option.none : Option Jvm.ClassFile.FieldType)).before args0 about1 = true := code_word (m := ⟨10, 0⟩) (meth := k10m0) (c := k10c0) (by decide +kernel) rfl rfl rfl (by decide +kernel)
set_option maxRecDepth 65536 in
theorem w_c8 : (Jvm.Cond.code ({ cls := "java/lang/Record", name := "<init>", desc := "()V" } : Jvm.MethodName) jdk_30_method_1_code (1 : Nat) (Option.none : Option Jvm.ClassFile.FieldType)).before args0 about1 = true := code_word (m := ⟨9, 0⟩) (meth := k9m0) (c := k9c0) (by decide +kernel) rfl rfl rfl (by decide +kernel)
set_option maxRecDepth 65536 in
theorem w_c9 : (Jvm.Cond.code ({ cls := "com/example/discern/discern/UriReference", name := "withoutFragment", desc := "()Lcom/example/discern/discern/UriReference;" } : Jvm.MethodName) prog_53_method_5_code (1 : Nat) (Option.some (Jvm.ClassFile.FieldType.object "com/example/discern/discern/UriReference"))).before args0 about1 = true := code_word (m := ⟨10, 1⟩) (meth := k10m1) (c := k10c1) (by decide +kernel) rfl rfl rfl (by decide +kernel)
set_option maxRecDepth 65536 in
theorem w_c10 : (Jvm.Cond.code ({ cls := "com/example/discern/discern/UriReference", name := "scheme", desc := "()Ljava/util/Optional;" } : Jvm.MethodName) prog_53_method_18_code (1 : Nat) (Option.some (Jvm.ClassFile.FieldType.object "java/util/Optional"))).before args0 about1 = true := code_word (m := ⟨10, 2⟩) (meth := k10m2) (c := k10c2) (by decide +kernel) rfl rfl rfl (by decide +kernel)
set_option maxRecDepth 65536 in
theorem w_c11 : (Jvm.Cond.code ({ cls := "java/util/Optional", name := "equals", desc := "(Ljava/lang/Object;)Z" } : Jvm.MethodName) jdk_32_method_19_code (3 : Nat) (Option.some Jvm.ClassFile.FieldType.boolean)).before args0 about1 = true := code_word (m := ⟨2, 4⟩) (meth := k2m4) (c := k2c4) (by decide +kernel) rfl rfl rfl (by decide +kernel)
set_option maxRecDepth 65536 in
theorem w_c12 : (Jvm.Cond.code ({ cls := "com/example/discern/discern/UriReference", name := "authority", desc := "()Ljava/util/Optional;" } : Jvm.MethodName) prog_53_method_19_code (1 : Nat) (Option.some (Jvm.ClassFile.FieldType.object "java/util/Optional"))).before args0 about1 = true := code_word (m := ⟨10, 3⟩) (meth := k10m3) (c := k10c3) (by decide +kernel) rfl rfl rfl (by decide +kernel)
set_option maxRecDepth 65536 in
theorem w_c13 : (Jvm.Cond.code ({ cls := "com/example/discern/discern/UriReference", name := "path", desc := "()Ljava/lang/String;" } : Jvm.MethodName) prog_53_method_20_code (1 : Nat) (Option.some (Jvm.ClassFile.FieldType.object "java/lang/String"))).before args0 about1 = true := code_word (m := ⟨10, 4⟩) (meth := k10m4) (c := k10c4) (by decide +kernel) rfl rfl rfl (by decide +kernel)
set_option maxRecDepth 65536 in
theorem w_c14 : (Jvm.Cond.code ({ cls := "java/lang/String", name := "equals", desc := "(Ljava/lang/Object;)Z" } : Jvm.MethodName) jdk_42_method_66_code (3 : Nat) (Option.some Jvm.ClassFile.FieldType.boolean)).before args0 about1 = true := code_word (m := ⟨8, 2⟩) (meth := k8m2) (c := k8c2) (by decide +kernel) rfl rfl rfl (by decide +kernel)
set_option maxRecDepth 65536 in
theorem w_c15 : (Jvm.Cond.code ({ cls := "com/example/discern/discern/UriReference", name := "query", desc := "()Ljava/util/Optional;" } : Jvm.MethodName) prog_53_method_21_code (1 : Nat) (Option.some (Jvm.ClassFile.FieldType.object "java/util/Optional"))).before args0 about1 = true := code_word (m := ⟨10, 5⟩) (meth := k10m5) (c := k10c5) (by decide +kernel) rfl rfl rfl (by decide +kernel)
set_option maxRecDepth 65536 in
theorem w_c16 : (Jvm.Cond.code ({ cls := "com/example/discern/discern/UriReference", name := "fragment", desc := "()Ljava/util/Optional;" } : Jvm.MethodName) prog_53_method_22_code (1 : Nat) (Option.some (Jvm.ClassFile.FieldType.object "java/util/Optional"))).before args0 about1 = true := code_word (m := ⟨10, 6⟩) (meth := k10m6) (c := k10c6) (by decide +kernel) rfl rfl rfl (by decide +kernel)
set_option maxRecDepth 65536 in
theorem w_c17 : (Jvm.Cond.code ({ cls := "java/util/Optional", name := "isPresent", desc := "()Z" } : Jvm.MethodName) jdk_32_method_6_code (1 : Nat) (Option.some Jvm.ClassFile.FieldType.boolean)).before args0 about1 = true := code_word (m := ⟨2, 3⟩) (meth := k2m3) (c := k2c3) (by decide +kernel) rfl rfl rfl (by decide +kernel)
set_option maxRecDepth 65536 in
theorem w_c18 : (Jvm.Cond.code ({ cls := "java/util/Optional", name := "of", desc := "(Ljava/lang/Object;)Ljava/util/Optional;" } : Jvm.MethodName) jdk_32_method_3_code (1 : Nat) (Option.some (Jvm.ClassFile.FieldType.object "java/util/Optional"))).before args0 about1 = true := code_word (m := ⟨2, 2⟩) (meth := k2m2) (c := k2c2) (by decide +kernel) rfl rfl rfl (by decide +kernel)
set_option maxRecDepth 65536 in
theorem w_c19 : (Jvm.Cond.code ({ cls := "java/util/Objects", name := "requireNonNull", desc := "(Ljava/lang/Object;)Ljava/lang/Object;" } : Jvm.MethodName) jdk_31_method_10_code (1 : Nat) (Option.some (Jvm.ClassFile.FieldType.object "java/lang/Object"))).before args0 about1 = true := code_word (m := ⟨11, 1⟩) (meth := k11m1) (c := k11c1) (by decide +kernel) rfl rfl rfl (by decide +kernel)
set_option maxRecDepth 65536 in
theorem w_c20 : (Jvm.Cond.code ({ cls := "java/util/Optional", name := "<init>", desc := "(Ljava/lang/Object;)V" } : Jvm.MethodName) jdk_32_method_2_code (2 : Nat) (Option.none : Option Jvm.ClassFile.FieldType)).before args0 about1 = true := code_word (m := ⟨2, 1⟩) (meth := k2m1) (c := k2c1) (by decide +kernel) rfl rfl rfl (by decide +kernel)
set_option maxRecDepth 65536 in
theorem w_c21 : (Jvm.Cond.code ({ cls := "java/lang/String", name := "valueOf", desc := "(C)Ljava/lang/String;" } : Jvm.MethodName) jdk_42_method_139_code (1 : Nat) (Option.some (Jvm.ClassFile.FieldType.object "java/lang/String"))).before args0 about1 = true := code_word (m := ⟨8, 3⟩) (meth := k8m3) (c := k8c3) (by decide +kernel) rfl rfl rfl (by decide +kernel)
set_option maxRecDepth 65536 in
theorem w_c22 : (Jvm.Cond.code ({ cls := "java/lang/StringLatin1", name := "canEncode", desc := "(C)Z" } : Jvm.MethodName) jdk_43_method_3_code (1 : Nat) (Option.some Jvm.ClassFile.FieldType.boolean)).before args0 about1 = true := code_word (m := ⟨12, 1⟩) (meth := k12m1) (c := k12c1) (by decide +kernel) rfl rfl rfl (by decide +kernel)
set_option maxRecDepth 65536 in
theorem w_c23 : (Jvm.Cond.code ({ cls := "java/lang/StringLatin1", name := "toBytes", desc := "(C)[B" } : Jvm.MethodName) jdk_43_method_46_code (1 : Nat) (Option.some (Jvm.ClassFile.FieldType.array Jvm.ClassFile.FieldType.byte))).before args0 about1 = true := code_word (m := ⟨12, 2⟩) (meth := k12m2) (c := k12c2) (by decide +kernel) rfl rfl rfl (by decide +kernel)
set_option maxRecDepth 65536 in
theorem w_c24 : (Jvm.Cond.code ({ cls := "java/lang/String", name := "<init>", desc := "([BB)V" } : Jvm.MethodName) jdk_42_method_151_code (3 : Nat) (Option.none : Option Jvm.ClassFile.FieldType)).before args0 about1 = true := code_word (m := ⟨8, 5⟩) (meth := k8m5) (c := k8c5) (by decide +kernel) rfl rfl rfl (by decide +kernel)
set_option maxRecDepth 65536 in
theorem w_c25 : (Jvm.Cond.code ({ cls := "java/lang/StringUTF16", name := "compress", desc := "([CII)[B" } : Jvm.MethodName) jdk_52_method_16_code (6 : Nat) (Option.some (Jvm.ClassFile.FieldType.array Jvm.ClassFile.FieldType.byte))).before args0 about1 = true := code_word (m := ⟨13, 2⟩) (meth := k13m2) (c := k13c2) (by decide +kernel) rfl rfl rfl (by decide +kernel)
set_option maxRecDepth 65536 in
theorem w_c26 : (Jvm.Cond.code ({ cls := "java/lang/StringUTF16", name := "compress", desc := "([CI[BII)I" } : Jvm.MethodName) jdk_52_method_21_code (7 : Nat) (Option.some Jvm.ClassFile.FieldType.int)).before args0 about1 = true := code_word (m := ⟨13, 3⟩) (meth := k13m3) (c := k13c3) (by decide +kernel) rfl rfl rfl (by decide +kernel)
set_option maxRecDepth 65536 in
theorem w_c27 : (Jvm.Cond.code ({ cls := "java/lang/StringUTF16", name := "coderFromArrayLen", desc := "([BI)B" } : Jvm.MethodName) jdk_52_method_15_code (2 : Nat) (Option.some Jvm.ClassFile.FieldType.byte)).before args0 about1 = true := code_word (m := ⟨13, 1⟩) (meth := k13m1) (c := k13c1) (by decide +kernel) rfl rfl rfl (by decide +kernel)
def codes1 : List Jvm.Cond := [Jvm.Cond.code x code maxLocals ret, Jvm.Cond.code ({ cls := "com/example/discern/discern/UriReferenceWithoutFragmentPinLaw", name := "opt", desc := "(ZI)Ljava/util/Optional;" } : Jvm.MethodName) method_3_code (2 : Nat) (Option.some (Jvm.ClassFile.FieldType.object "java/util/Optional")), Jvm.Cond.code ({ cls := "java/util/Optional", name := "empty", desc := "()Ljava/util/Optional;" } : Jvm.MethodName) jdk_32_method_1_code (1 : Nat) (Option.some (Jvm.ClassFile.FieldType.object "java/util/Optional")), Jvm.Cond.code ({ cls := "com/example/discern/discern/UriReferenceWithoutFragmentPinLaw", name := "str", desc := "(I)Ljava/lang/String;" } : Jvm.MethodName) method_4_code (5 : Nat) (Option.some (Jvm.ClassFile.FieldType.object "java/lang/String")), Jvm.Cond.code ({ cls := "java/lang/String", name := "<init>", desc := "([C)V" } : Jvm.MethodName) jdk_42_method_3_code (2 : Nat) (Option.none : Option Jvm.ClassFile.FieldType), Jvm.Cond.code ({ cls := "java/lang/String", name := "<init>", desc := "([CIILjava/lang/Void;)V" } : Jvm.MethodName) jdk_42_method_149_code (6 : Nat) (Option.none : Option Jvm.ClassFile.FieldType), Jvm.Cond.code ({ cls := "java/lang/Object", name := "<init>", desc := "()V" } : Jvm.MethodName) object_method_1_code (1 : Nat) (Option.none : Option Jvm.ClassFile.FieldType), Jvm.Cond.code ({ cls := "com/example/discern/discern/UriReference", name := "<init>", desc := "(Ljava/util/Optional;Ljava/util/Optional;Ljava/lang/String;Ljava/util/Optional;Ljava/util/Optional;)V" } : Jvm.MethodName) prog_53_method_1_code (6 : Nat) (Option.none : Option Jvm.ClassFile.FieldType), Jvm.Cond.code ({ cls := "java/lang/Record", name := "<init>", desc := "()V" } : Jvm.MethodName) jdk_30_method_1_code (1 : Nat) (Option.none : Option Jvm.ClassFile.FieldType), Jvm.Cond.code ({ cls := "com/example/discern/discern/UriReference", name := "withoutFragment", desc := "()Lcom/example/discern/discern/UriReference;" } : Jvm.MethodName) prog_53_method_5_code (1 : Nat) (Option.some (Jvm.ClassFile.FieldType.object "com/example/discern/discern/UriReference")), Jvm.Cond.code ({ cls := "com/example/discern/discern/UriReference", name := "scheme", desc := "()Ljava/util/Optional;" } : Jvm.MethodName) prog_53_method_18_code (1 : Nat) (Option.some (Jvm.ClassFile.FieldType.object "java/util/Optional")), Jvm.Cond.code ({ cls := "java/util/Optional", name := "equals", desc := "(Ljava/lang/Object;)Z" } : Jvm.MethodName) jdk_32_method_19_code (3 : Nat) (Option.some Jvm.ClassFile.FieldType.boolean), Jvm.Cond.code ({ cls := "com/example/discern/discern/UriReference", name := "authority", desc := "()Ljava/util/Optional;" } : Jvm.MethodName) prog_53_method_19_code (1 : Nat) (Option.some (Jvm.ClassFile.FieldType.object "java/util/Optional")), Jvm.Cond.code ({ cls := "com/example/discern/discern/UriReference", name := "path", desc := "()Ljava/lang/String;" } : Jvm.MethodName) prog_53_method_20_code (1 : Nat) (Option.some (Jvm.ClassFile.FieldType.object "java/lang/String")), Jvm.Cond.code ({ cls := "java/lang/String", name := "equals", desc := "(Ljava/lang/Object;)Z" } : Jvm.MethodName) jdk_42_method_66_code (3 : Nat) (Option.some Jvm.ClassFile.FieldType.boolean), Jvm.Cond.code ({ cls := "com/example/discern/discern/UriReference", name := "query", desc := "()Ljava/util/Optional;" } : Jvm.MethodName) prog_53_method_21_code (1 : Nat) (Option.some (Jvm.ClassFile.FieldType.object "java/util/Optional")), Jvm.Cond.code ({ cls := "com/example/discern/discern/UriReference", name := "fragment", desc := "()Ljava/util/Optional;" } : Jvm.MethodName) prog_53_method_22_code (1 : Nat) (Option.some (Jvm.ClassFile.FieldType.object "java/util/Optional")), Jvm.Cond.code ({ cls := "java/util/Optional", name := "isPresent", desc := "()Z" } : Jvm.MethodName) jdk_32_method_6_code (1 : Nat) (Option.some Jvm.ClassFile.FieldType.boolean), Jvm.Cond.code ({ cls := "java/util/Optional", name := "of", desc := "(Ljava/lang/Object;)Ljava/util/Optional;" } : Jvm.MethodName) jdk_32_method_3_code (1 : Nat) (Option.some (Jvm.ClassFile.FieldType.object "java/util/Optional")), Jvm.Cond.code ({ cls := "java/util/Objects", name := "requireNonNull", desc := "(Ljava/lang/Object;)Ljava/lang/Object;" } : Jvm.MethodName) jdk_31_method_10_code (1 : Nat) (Option.some (Jvm.ClassFile.FieldType.object "java/lang/Object")), Jvm.Cond.code ({ cls := "java/util/Optional", name := "<init>", desc := "(Ljava/lang/Object;)V" } : Jvm.MethodName) jdk_32_method_2_code (2 : Nat) (Option.none : Option Jvm.ClassFile.FieldType), Jvm.Cond.code ({ cls := "java/lang/String", name := "valueOf", desc := "(C)Ljava/lang/String;" } : Jvm.MethodName) jdk_42_method_139_code (1 : Nat) (Option.some (Jvm.ClassFile.FieldType.object "java/lang/String")), Jvm.Cond.code ({ cls := "java/lang/StringLatin1", name := "canEncode", desc := "(C)Z" } : Jvm.MethodName) jdk_43_method_3_code (1 : Nat) (Option.some Jvm.ClassFile.FieldType.boolean), Jvm.Cond.code ({ cls := "java/lang/StringLatin1", name := "toBytes", desc := "(C)[B" } : Jvm.MethodName) jdk_43_method_46_code (1 : Nat) (Option.some (Jvm.ClassFile.FieldType.array Jvm.ClassFile.FieldType.byte)), Jvm.Cond.code ({ cls := "java/lang/String", name := "<init>", desc := "([BB)V" } : Jvm.MethodName) jdk_42_method_151_code (3 : Nat) (Option.none : Option Jvm.ClassFile.FieldType), Jvm.Cond.code ({ cls := "java/lang/StringUTF16", name := "compress", desc := "([CII)[B" } : Jvm.MethodName) jdk_52_method_16_code (6 : Nat) (Option.some (Jvm.ClassFile.FieldType.array Jvm.ClassFile.FieldType.byte)), Jvm.Cond.code ({ cls := "java/lang/StringUTF16", name := "compress", desc := "([CI[BII)I" } : Jvm.MethodName) jdk_52_method_21_code (7 : Nat) (Option.some Jvm.ClassFile.FieldType.int), Jvm.Cond.code ({ cls := "java/lang/StringUTF16", name := "coderFromArrayLen", desc := "([BI)B" } : Jvm.MethodName) jdk_52_method_15_code (2 : Nat) (Option.some Jvm.ClassFile.FieldType.byte)]
set_option maxRecDepth 65536 in
theorem codes_eq : words1.filter isCode = codes1 := rfl
theorem w_codes : ∀ c ∈ words1.filter isCode, c.before args0 about1 = true := by
  rw [codes_eq]
  intro c hc
  simp only [codes1, List.mem_cons, List.not_mem_nil, or_false] at hc
  rcases hc with rfl | rfl | rfl | rfl | rfl | rfl | rfl | rfl | rfl | rfl | rfl | rfl | rfl | rfl | rfl | rfl | rfl | rfl | rfl | rfl | rfl | rfl | rfl | rfl | rfl | rfl | rfl | rfl
  · exact w_c0
  · exact w_c1
  · exact w_c2
  · exact w_c3
  · exact w_c4
  · exact w_c5
  · exact w_c6
  · exact w_c7
  · exact w_c8
  · exact w_c9
  · exact w_c10
  · exact w_c11
  · exact w_c12
  · exact w_c13
  · exact w_c14
  · exact w_c15
  · exact w_c16
  · exact w_c17
  · exact w_c18
  · exact w_c19
  · exact w_c20
  · exact w_c21
  · exact w_c22
  · exact w_c23
  · exact w_c24
  · exact w_c25
  · exact w_c26
  · exact w_c27
set_option maxRecDepth 65536 in
theorem w_t1 : (words1.take 24).all (fun c => isCode c || c.before args0 about1) = true := by decide +kernel
set_option maxRecDepth 65536 in
theorem w_t2 : ((words1.drop 24).take 24).all (fun c => isCode c || c.before args0 about1) = true := by decide +kernel
set_option maxRecDepth 65536 in
theorem w_t3 : (((words1.drop 24).drop 24).take 24).all (fun c => isCode c || c.before args0 about1) = true := by decide +kernel
set_option maxRecDepth 65536 in
theorem w_t4 : ((((words1.drop 24).drop 24).drop 24).take 24).all (fun c => isCode c || c.before args0 about1) = true := by decide +kernel
set_option maxRecDepth 65536 in
theorem w_t5 : (((((words1.drop 24).drop 24).drop 24).drop 24).take 24).all (fun c => isCode c || c.before args0 about1) = true := by decide +kernel
set_option maxRecDepth 65536 in
theorem w_t6 : ((((((words1.drop 24).drop 24).drop 24).drop 24).drop 24).take 24).all (fun c => isCode c || c.before args0 about1) = true := by decide +kernel
set_option maxRecDepth 65536 in
theorem w_t7 : ((((((words1.drop 24).drop 24).drop 24).drop 24).drop 24).drop 24).all (fun c => isCode c || c.before args0 about1) = true := by decide +kernel
theorem w_tables : (allAtoms (Jvm.Cond.code x code maxLocals ret :: tables_1)).before args0 about1 = true := by
  rw [allAtoms_all]
  show words1.all (fun c => c.before args0 about1) = true
  refine all_split ?_ w_codes
  rw [← List.take_append_drop 24 words1, List.all_append, w_t1, ← List.take_append_drop 24 (words1.drop 24), List.all_append, w_t2, ← List.take_append_drop 24 ((words1.drop 24).drop 24), List.all_append, w_t3, ← List.take_append_drop 24 (((words1.drop 24).drop 24).drop 24), List.all_append, w_t4, ← List.take_append_drop 24 ((((words1.drop 24).drop 24).drop 24).drop 24), List.all_append, w_t5, ← List.take_append_drop 24 (((((words1.drop 24).drop 24).drop 24).drop 24).drop 24), List.all_append, w_t6, w_t7]
  rfl
set_option maxRecDepth 65536 in
theorem w_rest : rest_1_c.before args0 about1 = true := by decide +kernel
set_option maxRecDepth 65536 in
theorem w_case : (Jvm.Cond.and given_1 narrow_1).before args0 about1 = true := by decide +kernel
set_option maxRecDepth 65536 in
theorem w_consts : constsHeld consts_1 about1 := Jvm.Lit.constsHeldB_iff.mp (by decide +kernel)
theorem w_applies : (headSpec (Jvm.Cond.code x code maxLocals ret :: tables_1) room_1).applies x e0.platform about1 = true :=
  (Spec.applies_iff w_frames).mpr ⟨w_running, w_runnable, w_alone, w_named, w_hears, w_ripe, w_room, w_tables⟩
theorem atStart : AtStart classFile x code maxLocals ret World_1 tables_1 room_1 Calls_1 rest_1 Pre_1 launch0 p0 e0 about1 theMethod args0 below0 :=
  ⟨lists_1, trivial, launch0.admits_env _ _ _, launch0.least_env, fairChoices_fair.cas, fairChoices_fair.clock, w_frames, w_args, w_heap, w_applies, ⟨w_consts, trivial⟩, w_rest, w_case⟩
end start1
theorem witness_1 : WitnessClaimed_1 := ⟨start1.p0, start1.e0, start1.about1, start1.theMethod, start1.args0, start1.below0, start1.atStart⟩
end Jvm.Pilot.@@N@@
