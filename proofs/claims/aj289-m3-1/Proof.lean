import JvmDerived
import JvmDerived.Pilot.@@N@@Statement
import JvmDerived.Pilot.@@N@@Code
set_option linter.unusedVariables false
set_option linter.unusedSimpArgs false
namespace Jvm.RoadKit
open Sem ClassFile Op Lib Jvm.Stand Jvm.Free Jvm.LawKit
section New
variable {p : Program} {l : Launch} {e : Env} {R : Room} {s : State} {m : MethodId} {args : Array Value} {below : List Frame} {meth : Method} {c : Code} {T : State} {locs : List Loc} {cells slots : Nat}
theorem retI (X : Stand p l e R s m args below meth c T locs cells slots) (hx : p.tables.exec = Jvm.exec) {pc : Nat} {Ls : Array Slot} {z : Int32} {rest : List Value} (hret : meth.sig.returnType = some .int) (hd : decode c.code pc = .ok (.ireturn, 1)) {fs : List Frame}
    (hl : ∀ (f : JFrame) (acts : List Action), f.method = m → f.locked = none → f.entered = [] → (doReturn e (T.setTop f) acts (some (.int z))).1 = T.setFrames fs) : Steps p.tables e below (T.setTop (mkF m pc Ls (.int z :: rest))) (T.setFrames fs) := by
  have hm' : T.vm.method? m = some meth := X.method'
  have hn : narrow .int (.int z) = .int z := rfl
  show Steps p.tables e below (T.setTop { method := m, pc := pc, locals := Ls, stack := _ :: rest, locked := none }) _
  jvm_step X.here [X.here.top, hx, hd, hm', hret, hn]
  first | (intro acts; rw [hl _ acts rfl rfl rfl]) | rw [hl _ _ rfl rfl rfl]
  exact Steps.refl _
theorem retR (X : Stand p l e R s m args below meth c T locs cells slots) (hx : p.tables.exec = Jvm.exec) {pc : Nat} {Ls : Array Slot} {w : Value} {t : FieldType} {rest : List Value} (hret : meth.sig.returnType = some t) (hn : narrow t w = w) (ht : t.isReference = true) (hw : w.isRef = true) (hd : decode c.code pc = .ok (.areturn, 1)) {fs : List Frame}
    (hl : ∀ (f : JFrame) (acts : List Action), f.method = m → f.locked = none → f.entered = [] → (doReturn e (T.setTop f) acts (some w)).1 = T.setFrames fs) : Steps p.tables e below (T.setTop (mkF m pc Ls (w :: rest))) (T.setFrames fs) := by
  have hm' : T.vm.method? m = some meth := X.method'
  show Steps p.tables e below (T.setTop { method := m, pc := pc, locals := Ls, stack := _ :: rest, locked := none }) _
  jvm_step X.here [X.here.top, hx, hd, hm', hret, hn, hw]
  try (refine ⟨ht, ?_⟩)
  first | (intro acts; rw [hl _ acts rfl rfl rfl]) | rw [hl _ _ rfl rfl rfl]
  exact Steps.refl _
end New
end Jvm.RoadKit
namespace Jvm.Wk
open Jvm Jvm.ClassFile Sem Op Lib Jvm.Free Jvm.Stand Jvm.LawKit Jvm.RoadKit
/-! A backward calculus of walks ('Walk'), over the library's Stand laws. -/
abbrev LiT : Type := List (String × Nat × Addr)
/-- String constants since the law's start: texts interned (among Ts); entries known to be resolved -/
abbrev TsT : Type := Option (List String)
def LS (Z : State) (vm : Vm) (Ts : TsT) (Li : LiT) : Prop := (∀ T, Ts = some T → IB Z vm T) ∧ (Ts = some [] → Z.WarmedH vm) ∧ ∀ q ∈ Li, (Z.setVm vm).resolvedAt? q.1 q.2.1 = some (.string q.2.2)
theorem LS.warm {Z s : State} {vm vm' : Vm} {Ts : TsT} {Li : LiT} (h : LS Z vm Ts Li) (hw : (s.setVm vm).WarmedH vm') : LS Z vm' Ts Li := by
  refine ⟨?_, fun hT => State.WarmedH.trans (t := s.setVm vm) (h.2.1 hT) hw, fun q hq => ?_⟩
  · intro T hT
    obtain ⟨more, e, hm⟩ := h.1 T hT
    exact ⟨more, (hw.interned_eq).trans e, hm⟩
  · exact State.resolvedAt?_warmed39 (s := s.setVm vm) hw.wide (h.2.2 q hq)
theorem LS.start {Z : State} : LS Z Z.vm (some []) [] := ⟨fun T hT => by cases hT; exact IB.start, fun _ => State.WarmedH.refl Z, fun _ q => nomatch q⟩
theorem LS.nil {Z : State} {vm : Vm} {Ts : TsT} {Li : LiT} (h : LS Z vm Ts Li) : LS Z vm Ts [] := ⟨h.1, h.2.1, fun _ q => nomatch q⟩
/-- old cells keep their kind, and their slots but for those in W -/
def Kq (h h' : Heap) (W : Loc → Prop) : Prop := h.size ≤ h'.size ∧ ∀ (a : Addr) (c : Cell), h[a]? = some c → ∃ c' : Cell, h'[a]? = some c' ∧ c'.cls = c.cls ∧ c'.vm = c.vm ∧ c'.slots.size = c.slots.size ∧ ∀ i, ¬ W ⟨a, i⟩ → c'.slots[i]? = c.slots[i]?
abbrev noW : Loc → Prop := fun _ => False
theorem Kq.refl (h : Heap) (W : Loc → Prop) : Kq h h W := ⟨Nat.le_refl _, fun _ c q => ⟨c, q, rfl, rfl, rfl, fun _ _ => rfl⟩⟩
theorem Kq.of_ext {h h' : Heap} (E : Ext h h') : Kq h h' noW := ⟨E.1, fun a c q => ⟨c, E.2 a c q, rfl, rfl, rfl, fun _ _ => rfl⟩⟩
theorem Kq.of_wr {h h' : Heap} {a : Addr} {sl : Nat} {v : Value} (W : Wr h h' a sl v) : Kq h h' (fun y => y = ⟨a, sl⟩) := by
  refine ⟨Nat.le_of_eq W.size.symm, fun b c q => ?_⟩
  obtain ⟨c', e1, e2, e3, e4, e5, e6, -⟩ := wr_at W q
  refine ⟨c', e1, e2, e3, e4, fun i hi => ?_⟩
  by_cases e : b = a
  · refine e6 i fun hj => hi ?_
    rw [e, hj]
  · rw [e5 e]
theorem Kq.trans {h h1 h2 : Heap} {W W1 W2 : Loc → Prop} (K : Kq h h1 W1) (K' : Kq h1 h2 W2) (q1 : ∀ y, W1 y → W y) (q2 : ∀ y : Loc, y.base < h.size → W2 y → W y) : Kq h h2 W := by
  refine ⟨Nat.le_trans K.1 K'.1, fun a c q => ?_⟩
  obtain ⟨c1, a1, a2, a3, a4, a5⟩ := K.2 a c q
  obtain ⟨c2, b1, b2, b3, b4, b5⟩ := K'.2 a c1 a1
  exact ⟨c2, b1, b2.trans a2, b3.trans a3, b4.trans a4, fun i hi => (b5 i fun hw => hi (q2 _ (Array.getElem?_eq_some_iff.mp q).1 hw)).trans (a5 i fun hw => hi (q1 _ hw))⟩
theorem Kq.mono {h h1 : Heap} {W W1 : Loc → Prop} (K : Kq h h1 W1) (q : ∀ y, W1 y → W y) : Kq h h1 W := ⟨K.1, fun a c e => by
  obtain ⟨c1, a1, a2, a3, a4, a5⟩ := K.2 a c e
  exact ⟨c1, a1, a2, a3, a4, fun i hi => a5 i fun hw => hi (q _ hw)⟩⟩
/-- an array: its kind, its length, what stands in it -/
def Av (Z : State) (h : Heap) (a : Addr) (ty : FieldType) (n : Nat) (f : Nat → Value) : Prop := ∃ c : Cell, Arr Z h a c ty ∧ c.slots.size = n ∧ n < 2147483648 ∧ ∀ i, i < n → c.slots[i]? = some (f i)
theorem nw {a b : Addr} {i j : Nat} (q : a ≠ b) : ¬ ((⟨a, i⟩ : Loc) = ⟨b, j⟩) := fun e => q (congrArg Loc.base e)
theorem nws {a b : Addr} {i j : Nat} (q : i ≠ j) : ¬ ((⟨a, i⟩ : Loc) = ⟨b, j⟩) := fun e => q (by cases e; rfl)
theorem nwb {a b : Addr} {i : Nat} (q : a ≠ b) : ¬ ((⟨a, i⟩ : Loc).base = b) := q
theorem ltne {a b : Addr} {n : Nat} (h : a < n) (g : n ≤ b) : a ≠ b := Nat.ne_of_lt (Nat.lt_of_lt_of_le h g)
theorem gtne {a b : Addr} {n : Nat} (h : a < n) (g : n ≤ b) : b ≠ a := Nat.ne_of_gt (Nat.lt_of_lt_of_le h g)
end Jvm.Wk
namespace Jvm.RoadKit
open Jvm Jvm.ClassFile Sem Op Lib Jvm.Free Jvm.Stand Jvm.LawKit Jvm.Wk
section Facts
variable {Z : State} {h h' : Heap} {W : Loc → Prop} {a b : Addr} {C n d : String} {v w : Value} {ty : FieldType}
theorem Fld.kq (F : Fld Z h a C n d v) (K : Kq h h' W) (q : ¬ W ⟨a, Jvm.RoadKit.slotOf Z C n d⟩) : Fld Z h' a C n d v := by
  obtain ⟨cell, cf, k, i, f, h1, h2, h3, h4, h5, h6, h7⟩ := F
  obtain ⟨c', e1, e2, e3, -, e5⟩ := K.2 _ _ h1
  refine ⟨c', cf, k, i, f, e1, h2, h3, by rw [e3]; exact h4, by rw [e3]; exact h5, by rw [e2]; exact h6, ?_⟩
  rw [e5 f.slot (by simpa [slotOf, h2] using q)]; exact h7
theorem Exa.kq (F : Exa Z h a C) (K : Kq h h' W) : Exa Z h' a C := by
  obtain ⟨cell, k, h1, h2, h3, h4, h5⟩ := F
  obtain ⟨c', e1, e2, e3, e4, -⟩ := K.2 _ _ h1
  exact ⟨c', k, e1, by rw [e2]; exact h2, by rw [e2]; exact h3, by rw [e3]; exact h4, by rw [e4]; exact h5⟩
theorem kqCell (K : Kq h h' W) {c : Cell} (e : h[a]? = some c) (q : ∀ i, ¬ W ⟨a, i⟩) : ∃ c' : Cell, h'[a]? = some c' ∧ c'.cls = c.cls ∧ c'.vm = c.vm ∧ c'.slots = c.slots := by
  obtain ⟨c', e1, e2, e3, -, e5⟩ := K.2 _ _ e
  exact ⟨c', e1, e2, e3, Array.ext_getElem? fun i => e5 i (q i)⟩
theorem Arr.kq {c : Cell} (F : Arr Z h a c ty) (K : Kq h h' W) (q : ∀ i, ¬ W ⟨a, i⟩) : ∃ c', Arr Z h' a c' ty ∧ c'.cls = c.cls ∧ c'.slots = c.slots := by
  obtain ⟨c', e1, e2, e3, -, e5⟩ := K.2 _ _ F.1
  obtain ⟨g1, k, g2, g3⟩ := F.2.1
  exact ⟨c', ⟨e1, ⟨by rw [e3]; exact g1, k, by rw [e2]; exact g2, g3⟩, by rw [e3]; exact F.2.2⟩, e2, Array.ext_getElem? fun i => e5 i (q i)⟩
theorem Arv.kq {k : ClassId} {z : Int32} {vs : List Value} {dv : Value} (F : Arv Z h a k ty z vs dv) (K : Kq h h' W) (q : ∀ i, ¬ W ⟨a, i⟩) : Arv Z h' a k ty z vs dv := by
  obtain ⟨c, A, r1, r2, r3, r4, r5⟩ := F
  obtain ⟨c', A', e1, e2⟩ := A.kq K q
  exact ⟨c', A', e1.trans r1, by rw [e2]; exact r2, r3, fun i hi => by rw [e2] at hi ⊢; exact r4 i hi, fun i hi => by rw [e2] at hi; exact r5 i hi⟩
theorem Ins.kq {K : String} {bo : Bool} (F : Ins Z h a K bo) (KK : Kq h h' W) : Ins Z h' a K bo := by
  obtain ⟨cell, cT, h1, h2, h3⟩ := F
  obtain ⟨c', e1, e2, e3, -⟩ := KK.2 _ _ h1
  exact ⟨c', cT, e1, h2, by rw [e2, e3]; exact h3⟩
end Facts
end Jvm.RoadKit
namespace Jvm.Wk
open Jvm Jvm.ClassFile Sem Op Lib Jvm.Free Jvm.Stand Jvm.LawKit Jvm.RoadKit
theorem Av.kq {Z : State} {h h' : Heap} {W : Loc → Prop} {a : Addr} {ty : FieldType} {z : Nat} {f : Nat → Value} (F : Av Z h a ty z f) (K : Kq h h' W) (q : ∀ i, ¬ W ⟨a, i⟩) : Av Z h' a ty z f := by
  obtain ⟨c, A, r1, r2, r3⟩ := F
  obtain ⟨c', A', e1, e2⟩ := A.kq K q
  exact ⟨c', A', by rw [e2]; exact r1, r2, fun i hi => by rw [e2]; exact r3 i hi⟩
theorem exa_av {Z : State} {h : Heap} {a b : Addr} {C : String} {k : Nat} {a0 : Array Value} {ty : FieldType} {z : Nat} {f : Nat → Value} (E : Exa Z h a C) (w : (Cond.instantiable C k).before a0 Z = true) (F : Av Z h b ty z f) : a ≠ b := by obtain ⟨c, A, -⟩ := F; exact ne_arr E w A
theorem Av.congr {Z : State} {h : Heap} {a : Addr} {ty : FieldType} {n : Nat} {f g : Nat → Value} (F : Av Z h a ty n f) (e : ∀ i, i < n → f i = g i) : Av Z h a ty n g := by
  obtain ⟨c, A, r1, r2, r3⟩ := F
  exact ⟨c, A, r1, r2, fun i hi => (e i hi) ▸ r3 i hi⟩
theorem Av.kq0 {Z : State} {h : Heap} {a : Addr} {ty : FieldType} {f g : Nat → Value} (F : Av Z h a ty 0 f) : Av Z h a ty 0 g := F.congr fun i hi => absurd hi (Nat.not_lt_zero _)
theorem Av.lt {Z : State} {h : Heap} {a : Addr} {ty : FieldType} {z : Nat} {f : Nat → Value} (F : Av Z h a ty z f) : a < h.size := by obtain ⟨c, A, -⟩ := F; exact A.lt
theorem Av.of_arv {Z : State} {h : Heap} {a : Addr} {k : ClassId} {ty : FieldType} {z : Int32} {vs : List Value} {d : Value} (F : Arv Z h a k ty z vs d) {n : Nat} (hn : z.toNatClampNeg = n) : Av Z h a ty n (fun i => vs.getD i d) := by
  obtain ⟨c, A, r1, r2, r3, r4, r5⟩ := F
  exact ⟨c, A, r2.trans hn, hn ▸ (back32 r3).2, fun i hi => r4 i (by rw [r2, hn]; exact hi)⟩
end Jvm.Wk
namespace Jvm.Wk
open Jvm Jvm.ClassFile Sem Op Lib Jvm.Free Jvm.Stand Jvm.LawKit Jvm.RoadKit
/-- places made since h, or in W -/
def Fw (h : Heap) (W : Loc → Prop) : Loc → Prop := fun y => h.size ≤ y.base ∨ W y
theorem Fw.fresh {h : Heap} {W : Loc → Prop} {a : Addr} {i : Nat} (q : h.size ≤ a) : Fw h W ⟨a, i⟩ := Or.inl q
theorem Fw.up {h0 h : Heap} {W V : Loc → Prop} (q : ∀ y, V y → Fw h0 W y) (g : h0.size ≤ h.size) : ∀ y, Fw h V y → Fw h0 W y := fun y r => r.elim (fun r => Or.inl (Nat.le_trans g r)) (q y)
theorem Fw.upN {h0 h : Heap} {W : Loc → Prop} (g : h0.size ≤ h.size) : ∀ y, Fw h noW y → Fw h0 W y := fun y r => r.elim (fun r => Or.inl (Nat.le_trans g r)) (fun r => r.elim)
theorem Fw.old {h : Heap} {W : Loc → Prop} {y : Loc} (q : W y) : Fw h W y := Or.inr q
/-- where a walk stands -/
def On (Z : State) (own nm : String) (rt : Option FieldType) (B : ByteArray) (ml : Nat) (R : Room) (h0 : Heap) (ws : Loc → Prop) (p : Program) (l : Launch) (e : Env) (s : State) (m : MethodId) (args : Array Value) (below : List Frame) (meth : Method) (c : Code) (Ts : TsT) (Li : LiT) (T : State) (h : Heap) (locs : List Loc) (cells slots : Nat) : Prop :=
  ∃ (vm0 : Vm) (k0 : Nat), Stand p l e R (s.setVm vm0) m args below meth c T locs cells slots ∧ p.tables.exec = Jvm.exec ∧ T.heap = h ∧ s.Since vm0 k0 ∧ k0 ≤ h.size ∧ Z.Warmed39 vm0 ∧ vm0.findClass own = some m.cls ∧ LS Z vm0 Ts Li ∧
    Fr Z.heap.size locs ∧ (∀ y ∈ locs, ws y) ∧ s.heap = h0 ∧ Ext Z.heap s.heap ∧ c.code = B ∧ c.maxLocals = ml ∧ meth.name = nm ∧ meth.sig.returnType = rt ∧ meth.locks = false
def Go (tb : Tables) (e : Env) (below : List Frame) (F : Outcome → State → Prop) (a : State) : Prop := ∃ s₂ o, Steps tb e below a s₂ ∧ s₂.status = .running ∧ Ended s₂ below o ∧ F o s₂
/-- how a frame ends -/
abbrev QT : Type := Option Value → Heap → TsT → LiT → Prop
def Fnl (Z : State) (R : Room) (h0 : Heap) (W : Loc → Prop) (Q : QT) (s : State) (o : Outcome) (s₂ : State) : Prop :=
  ∃ v L Ts' Li', o = .returned v ∧ Q v s₂.heap Ts' Li' ∧ LS Z s₂.vm Ts' Li' ∧ Fr Z.heap.size L ∧ (∀ y ∈ L, Fw h0 W y) ∧ ReturnedEndW s o s₂ L R.cells R.slots
/-- from wherever a walk stands so, the frame's end is reached -/
def Walk (Z : State) (own nm : String) (rt : Option FieldType) (B : ByteArray) (ml : Nat) (R : Room) (h0 : Heap) (W : Loc → Prop) (Q : QT) (ws : Loc → Prop) (Ts : TsT) (Li : LiT) (h : Heap) (cells slots pc : Nat) (Ls : Array Slot) (st : List Value) : Prop :=
  ∀ p l e s m args below meth c T locs, On Z own nm rt B ml R h0 ws p l e s m args below meth c Ts Li T h locs cells slots → Go p.tables e below (Fnl Z R h0 W Q s) (T.setTop (mkF m pc Ls st))
/-- it answers v0 and leaves all as it was -/
abbrev Pu (v0 : Option Value) (h : Heap) (Ts : TsT) (Li : LiT) : QT := fun v h' T L => v = v0 ∧ h' = h ∧ T = Ts ∧ L = Li
/-- a method's contract -/
def Con (Z : State) (y : MethodName) (B : ByteArray) (ml : Nat) (rt : Option FieldType) (R : Room) (as : List Value) (h0 : Heap) (Ts : TsT) (Li : LiT) (W : Loc → Prop) (Q : QT) : Prop :=
  ∀ l tb, MetFree l y (head1 (Cond.code y B ml rt :: tb) R) (fun a U => a = as.toArray ∧ Z.Warmed39 U.vm ∧ U.heap = h0 ∧ Ext Z.heap U.heap ∧ LS Z U.vm Ts Li) (fun _ _ _ _ _ => True) (fun _ U o U' => Fnl Z R h0 W Q U o U')
theorem Con.of {Z : State} {y : MethodName} {B : ByteArray} {ml : Nat} {rt : Option FieldType} {R : Room} {as : List Value} {h0 : Heap} {Ts : TsT} {Li : LiT} {W : Loc → Prop} {Q : QT} {ws : Loc → Prop} {Ls : Array Slot}
    (hp : plainFor y = true) (he : ∀ m, entryFrame m as.toArray ml = mkF m 0 Ls []) (k : Ext Z.heap h0 → Walk Z y.cls y.name rt B ml R h0 W Q ws Ts Li h0 0 0 0 Ls []) : Con Z y B ml rt R as h0 Ts Li W Q := by
  intro l tb
  refine MetFree.of_bodySF hp hisR ?_
  intro p e s m args below meth c s₁ Bd hml0 hP hK
  obtain ⟨rfl, hZ, hh, hE, hL⟩ := hP
  have X0 : Stand p l e R (s.setVm s.vm) m as.toArray below meth c s₁ [] 0 0 := Stand.of_body Bd
  have e0 : s₁.heap = h0 := by rw [← hh, Bd.state]; rfl
  obtain ⟨s₂, o, h1, h2, h3, h4⟩ := k (hh ▸ hE) p l e s m as.toArray below meth c s₁ [] ⟨s.vm, h0.size, X0, Bd.exec, e0, (State.WarmedH.refl s).since _, Nat.le_refl _, hZ, findClass_of_methodNamed Bd.named, hL, Fr.nil _, (fun _ q => nomatch q), hh, hE, Bd.bytes, hml0, (name_of_methodNamed Bd.named Bd.method).1, Bd.returns, Bd.notSynchronized⟩
  exact ⟨s₂, o, castTop (he m) h1, h2, h3, h4⟩
section W
variable {Z : State} {own nm : String} {rt : Option FieldType} {B : ByteArray} {ml : Nat} {R : Room} {h0 : Heap} {W : Loc → Prop} {Q : QT} {ws : Loc → Prop} {Ts : TsT} {Li : LiT} {h : Heap} {cells slots pc pc' : Nat} {Ls Ls' : Array Slot} {st st' : List Value} {a0 : Array Value}
theorem Walk.lift (f : ∀ (p : Program) (e : Env) (below : List Frame) (T : State) (m : MethodId) (c : Code) (target : State), At T m c below → p.tables.exec = Jvm.exec → c.code = B → Steps p.tables e below (T.setTop (mkF m pc' Ls' st')) target → Steps p.tables e below (T.setTop (mkF m pc Ls st)) target)
    (k : Walk Z own nm rt B ml R h0 W Q ws Ts Li h cells slots pc' Ls' st') : Walk Z own nm rt B ml R h0 W Q ws Ts Li h cells slots pc Ls st := by
  intro p l e s m args below meth c T locs ho
  obtain ⟨s₂, o, h1, r⟩ := k p l e s m args below meth c T locs ho
  obtain ⟨vm0, k0, X, hx, -, -, -, -, -, -, -, -, -, -, hc, -⟩ := ho
  exact ⟨s₂, o, f p e below T m c s₂ X.here hx hc h1, r⟩
theorem Walk.ws_mono {ws' : Loc → Prop} (q : ∀ y, ws y → ws' y) (k : Walk Z own nm rt B ml R h0 W Q ws' Ts Li h cells slots pc Ls st) : Walk Z own nm rt B ml R h0 W Q ws Ts Li h cells slots pc Ls st := by
  intro p l e s m args below meth c T locs ho
  obtain ⟨vm0, k0, X, hx, a1, a2, a3, a4, a5, a6, a7, a8, a9⟩ := ho
  exact k p l e s m args below meth c T locs ⟨vm0, k0, X, hx, a1, a2, a3, a4, a5, a6, a7, fun y hy => q y (a8 y hy), a9⟩
/-- more may have been made -/
theorem Walk.more {cells' slots' : Nat} (hc : cells ≤ cells') (hs : slots ≤ slots') (k : Walk Z own nm rt B ml R h0 W Q ws Ts Li h cells' slots' pc Ls st) : Walk Z own nm rt B ml R h0 W Q ws Ts Li h cells slots pc Ls st := by
  intro p l e s m args below meth c T locs ho
  obtain ⟨vm0, k0, X, r⟩ := ho
  exact k p l e s m args below meth c T locs ⟨vm0, k0, X.more hc hs, r⟩
/-- the law's start stands yet -/
theorem Walk.old (k : Ext Z.heap h → Walk Z own nm rt B ml R h0 W Q ws Ts Li h cells slots pc Ls st) : Walk Z own nm rt B ml R h0 W Q ws Ts Li h cells slots pc Ls st := by
  intro p l e s m args below meth c T locs ho
  obtain ⟨vm0, k0, X, hx, eT, a2, a3, a4, a5, a6, N, a8, a9, E, r⟩ := id ho
  refine k ⟨?_, fun b cl hcl => ?_⟩ p l e s m args below meth c T locs ho
  · have q : s.heap.size ≤ T.heap.size := X.same.2.1
    rw [← eT]; exact Nat.le_trans E.1 q
  · obtain ⟨c', h1, h2, -, h4⟩ := X.same.2.2.2.2.2 b cl (E.2 b cl hcl)
    have hb := (Array.getElem?_eq_some_iff.mp hcl).1
    have hsl : c'.slots = cl.slots := Array.ext_getElem? fun i => h4 i fun hm => absurd (N _ hm) (Nat.not_le.mpr hb)
    have hcc : c' = cl := by rw [h2, hsl]
    rw [← eT, ← hcc]; exact h1
theorem Walk.aloadN {k : Fin 4} {v : Value} (hd : decode B pc = .ok (.aload_n k, 1)) (hl : Ls[k.val]? = some (.val v)) (hv : v.isRef = true) (k' : Walk Z own nm rt B ml R h0 W Q ws Ts Li h cells slots pc' Ls (v :: st)) (hp : pc + 1 = pc' := by rfl) : Walk Z own nm rt B ml R h0 W Q ws Ts Li h cells slots pc Ls (st) :=
  Walk.lift (fun _ _ _ _ _ _ _ h hx hc r => XS.aloadN h hx rfl (hb hc hd) hl hv (by subst hp; exact r)) k'
theorem Walk.aload {k : Nat} {v : Value} (hd : decode B pc = .ok (.aload k, 2)) (hl : Ls[k]? = some (.val v)) (hv : v.isRef = true) (k' : Walk Z own nm rt B ml R h0 W Q ws Ts Li h cells slots pc' Ls (v :: st)) (hp : pc + 2 = pc' := by rfl) : Walk Z own nm rt B ml R h0 W Q ws Ts Li h cells slots pc Ls (st) :=
  Walk.lift (fun _ _ _ _ _ _ _ h hx hc r => XS.aload h hx rfl (hb hc hd) hl hv (by subst hp; exact r)) k'
theorem Walk.iloadN {k : Fin 4} {v : Int32} (hd : decode B pc = .ok (.iload_n k, 1)) (hl : Ls[k.val]? = some (.val (.int v))) (k' : Walk Z own nm rt B ml R h0 W Q ws Ts Li h cells slots pc' Ls (.int v :: st)) (hp : pc + 1 = pc' := by rfl) : Walk Z own nm rt B ml R h0 W Q ws Ts Li h cells slots pc Ls (st) :=
  Walk.lift (fun _ _ _ _ _ _ _ h hx hc r => XS.iloadN h hx rfl (hb hc hd) hl (by subst hp; exact r)) k'
theorem Walk.iload {k : Nat} {v : Int32} (hd : decode B pc = .ok (.iload k, 2)) (hl : Ls[k]? = some (.val (.int v))) (k' : Walk Z own nm rt B ml R h0 W Q ws Ts Li h cells slots pc' Ls (.int v :: st)) (hp : pc + 2 = pc' := by rfl) : Walk Z own nm rt B ml R h0 W Q ws Ts Li h cells slots pc Ls (st) :=
  Walk.lift (fun _ _ _ _ _ _ _ h hx hc r => XS.iload h hx rfl (hb hc hd) hl (by subst hp; exact r)) k'
theorem Walk.lloadN {k : Fin 4} {v : Int64} (hd : decode B pc = .ok (.lload_n k, 1)) (hl : Ls[k.val]? = some (.val (.long v))) (k' : Walk Z own nm rt B ml R h0 W Q ws Ts Li h cells slots pc' Ls (.long v :: st)) (hp : pc + 1 = pc' := by rfl) : Walk Z own nm rt B ml R h0 W Q ws Ts Li h cells slots pc Ls (st) :=
  Walk.lift (fun _ _ _ _ _ _ _ h hx hc r => XT.lloadN h hx rfl (hb hc hd) hl (by subst hp; exact r)) k'
theorem Walk.lload {k : Nat} {v : Int64} (hd : decode B pc = .ok (.lload k, 2)) (hl : Ls[k]? = some (.val (.long v))) (k' : Walk Z own nm rt B ml R h0 W Q ws Ts Li h cells slots pc' Ls (.long v :: st)) (hp : pc + 2 = pc' := by rfl) : Walk Z own nm rt B ml R h0 W Q ws Ts Li h cells slots pc Ls (st) :=
  Walk.lift (fun _ _ _ _ _ _ _ h hx hc r => XT.lload h hx rfl (hb hc hd) hl (by subst hp; exact r)) k'
theorem Walk.iconst {i : Int} (v : Int32) (hd : decode B pc = .ok (.iconst i, 1)) (hv : Int32.ofInt i = v) (k' : Walk Z own nm rt B ml R h0 W Q ws Ts Li h cells slots pc' Ls (.int v :: st)) (hp : pc + 1 = pc' := by rfl) : Walk Z own nm rt B ml R h0 W Q ws Ts Li h cells slots pc Ls (st) :=
  Walk.lift (fun _ _ _ _ _ _ _ h hx hc r => XT.iconstV h hx rfl v (hb hc hd) hv (by subst hp; exact r)) k'
theorem Walk.bipush {i : Int} (v : Int32) (hd : decode B pc = .ok (.bipush i, 2)) (hv : (Int8.ofInt i).toInt32 = v) (k' : Walk Z own nm rt B ml R h0 W Q ws Ts Li h cells slots pc' Ls (.int v :: st)) (hp : pc + 2 = pc' := by rfl) : Walk Z own nm rt B ml R h0 W Q ws Ts Li h cells slots pc Ls (st) :=
  Walk.lift (fun _ _ _ _ _ _ _ h hx hc r => XT.bipushV h hx rfl v (hb hc hd) hv (by subst hp; exact r)) k'
theorem Walk.sipush {i : Int} (v : Int32) (hd : decode B pc = .ok (.sipush i, 3)) (hv : (Int16.ofInt i).toInt32 = v) (k' : Walk Z own nm rt B ml R h0 W Q ws Ts Li h cells slots pc' Ls (.int v :: st)) (hp : pc + 3 = pc' := by rfl) : Walk Z own nm rt B ml R h0 W Q ws Ts Li h cells slots pc Ls (st) :=
  Walk.lift (fun _ _ _ _ _ _ _ h hx hc r => XT.sipushV h hx rfl v (hb hc hd) hv (by subst hp; exact r)) k'
theorem Walk.lconst {k : Fin 2} (v : Int64) (hd : decode B pc = .ok (.lconst k, 1)) (hv : Int64.ofNat k = v) (k' : Walk Z own nm rt B ml R h0 W Q ws Ts Li h cells slots pc' Ls (.long v :: st)) (hp : pc + 1 = pc' := by rfl) : Walk Z own nm rt B ml R h0 W Q ws Ts Li h cells slots pc Ls (st) :=
  Walk.lift (fun _ _ _ _ _ _ _ h hx hc r => XT.lconstV h hx rfl v (hb hc hd) hv (by subst hp; exact r)) k'
theorem Walk.aconstNull (hd : decode B pc = .ok (.aconst_null, 1)) (k' : Walk Z own nm rt B ml R h0 W Q ws Ts Li h cells slots pc' Ls (.null :: st)) (hp : pc + 1 = pc' := by rfl) : Walk Z own nm rt B ml R h0 W Q ws Ts Li h cells slots pc Ls (st) :=
  Walk.lift (fun _ _ _ _ _ _ _ h hx hc r => XS.aconstNull h hx rfl (hb hc hd) (by subst hp; exact r)) k'
theorem Walk.iadd {x y : Int32} (hd : decode B pc = .ok (.iadd, 1)) (k' : Walk Z own nm rt B ml R h0 W Q ws Ts Li h cells slots pc' Ls (.int (x + y) :: st)) (hp : pc + 1 = pc' := by rfl) : Walk Z own nm rt B ml R h0 W Q ws Ts Li h cells slots pc Ls (.int y :: .int x :: st) :=
  Walk.lift (fun _ _ _ _ _ _ _ h hx hc r => XS.iadd h hx rfl (hb hc hd) rfl (by subst hp; exact r)) k'
theorem Walk.isub {x y : Int32} (hd : decode B pc = .ok (.isub, 1)) (k' : Walk Z own nm rt B ml R h0 W Q ws Ts Li h cells slots pc' Ls (.int (x - y) :: st)) (hp : pc + 1 = pc' := by rfl) : Walk Z own nm rt B ml R h0 W Q ws Ts Li h cells slots pc Ls (.int y :: .int x :: st) :=
  Walk.lift (fun _ _ _ _ _ _ _ h hx hc r => XS.isub h hx rfl (hb hc hd) rfl (by subst hp; exact r)) k'
theorem Walk.iand {x y : Int32} (hd : decode B pc = .ok (.iand, 1)) (k' : Walk Z own nm rt B ml R h0 W Q ws Ts Li h cells slots pc' Ls (.int (x &&& y) :: st)) (hp : pc + 1 = pc' := by rfl) : Walk Z own nm rt B ml R h0 W Q ws Ts Li h cells slots pc Ls (.int y :: .int x :: st) :=
  Walk.lift (fun _ _ _ _ _ _ _ h hx hc r => XS.iand h hx rfl (hb hc hd) rfl (by subst hp; exact r)) k'
theorem Walk.imul {x y : Int32} (hd : decode B pc = .ok (.imul, 1)) (k' : Walk Z own nm rt B ml R h0 W Q ws Ts Li h cells slots pc' Ls (.int (x * y) :: st)) (hp : pc + 1 = pc' := by rfl) : Walk Z own nm rt B ml R h0 W Q ws Ts Li h cells slots pc Ls (.int y :: .int x :: st) :=
  Walk.lift (fun _ _ _ _ _ _ _ h hx hc r => XS.imul h hx rfl (hb hc hd) rfl (by subst hp; exact r)) k'
theorem Walk.ixor {x y : Int32} (hd : decode B pc = .ok (.ixor, 1)) (k' : Walk Z own nm rt B ml R h0 W Q ws Ts Li h cells slots pc' Ls (.int (x ^^^ y) :: st)) (hp : pc + 1 = pc' := by rfl) : Walk Z own nm rt B ml R h0 W Q ws Ts Li h cells slots pc Ls (.int y :: .int x :: st) :=
  Walk.lift (fun _ _ _ _ _ _ _ h hx hc r => XT.ixor h hx rfl (hb hc hd) rfl (by subst hp; exact r)) k'
theorem Walk.ior {x y : Int32} (hd : decode B pc = .ok (.ior, 1)) (k' : Walk Z own nm rt B ml R h0 W Q ws Ts Li h cells slots pc' Ls (.int (x ||| y) :: st)) (hp : pc + 1 = pc' := by rfl) : Walk Z own nm rt B ml R h0 W Q ws Ts Li h cells slots pc Ls (.int y :: .int x :: st) :=
  Walk.lift (fun _ _ _ _ _ _ _ h hx hc r => XT.ior h hx rfl (hb hc hd) rfl (by subst hp; exact r)) k'
theorem Walk.ishl {x y : Int32} (hd : decode B pc = .ok (.ishl, 1)) (k' : Walk Z own nm rt B ml R h0 W Q ws Ts Li h cells slots pc' Ls (.int (x <<< (y &&& 31)) :: st)) (hp : pc + 1 = pc' := by rfl) : Walk Z own nm rt B ml R h0 W Q ws Ts Li h cells slots pc Ls (.int y :: .int x :: st) :=
  Walk.lift (fun _ _ _ _ _ _ _ h hx hc r => XT.ishl h hx rfl (hb hc hd) rfl (by subst hp; exact r)) k'
theorem Walk.ishr {x y : Int32} (hd : decode B pc = .ok (.ishr, 1)) (k' : Walk Z own nm rt B ml R h0 W Q ws Ts Li h cells slots pc' Ls (.int (x >>> (y &&& 31)) :: st)) (hp : pc + 1 = pc' := by rfl) : Walk Z own nm rt B ml R h0 W Q ws Ts Li h cells slots pc Ls (.int y :: .int x :: st) :=
  Walk.lift (fun _ _ _ _ _ _ _ h hx hc r => XT.ishr h hx rfl (hb hc hd) rfl (by subst hp; exact r)) k'
theorem Walk.iushr {x y : Int32} (hd : decode B pc = .ok (.iushr, 1)) (k' : Walk Z own nm rt B ml R h0 W Q ws Ts Li h cells slots pc' Ls (.int (XT.ushr x y) :: st)) (hp : pc + 1 = pc' := by rfl) : Walk Z own nm rt B ml R h0 W Q ws Ts Li h cells slots pc Ls (.int y :: .int x :: st) :=
  Walk.lift (fun _ _ _ _ _ _ _ h hx hc r => XT.iushr h hx rfl (hb hc hd) rfl (by subst hp; exact r)) k'
theorem Walk.idiv {x y : Int32} (hd : decode B pc = .ok (.idiv, 1)) (hy : y ≠ 0) (k' : Walk Z own nm rt B ml R h0 W Q ws Ts Li h cells slots pc' Ls (.int (x / y) :: st)) (hp : pc + 1 = pc' := by rfl) : Walk Z own nm rt B ml R h0 W Q ws Ts Li h cells slots pc Ls (.int y :: .int x :: st) :=
  Walk.lift (fun _ _ _ _ _ _ _ h hx hc r => XS.idiv h hx rfl (hb hc hd) rfl hy (by subst hp; exact r)) k'
theorem Walk.irem {x y : Int32} (hd : decode B pc = .ok (.irem, 1)) (hy : y ≠ 0) (k' : Walk Z own nm rt B ml R h0 W Q ws Ts Li h cells slots pc' Ls (.int (x - (x / y) * y) :: st)) (hp : pc + 1 = pc' := by rfl) : Walk Z own nm rt B ml R h0 W Q ws Ts Li h cells slots pc Ls (.int y :: .int x :: st) :=
  Walk.lift (fun _ _ _ _ _ _ _ h hx hc r => XS.irem h hx rfl (hb hc hd) rfl hy (by subst hp; exact r)) k'
theorem Walk.ineg {x : Int32} (hd : decode B pc = .ok (.ineg, 1)) (k' : Walk Z own nm rt B ml R h0 W Q ws Ts Li h cells slots pc' Ls (.int (-x) :: st)) (hp : pc + 1 = pc' := by rfl) : Walk Z own nm rt B ml R h0 W Q ws Ts Li h cells slots pc Ls (.int x :: st) :=
  Walk.lift (fun _ _ _ _ _ _ _ h hx hc r => XS.ineg h hx rfl (hb hc hd) rfl (by subst hp; exact r)) k'
theorem Walk.ladd {x y : Int64} (hd : decode B pc = .ok (.ladd, 1)) (k' : Walk Z own nm rt B ml R h0 W Q ws Ts Li h cells slots pc' Ls (.long (x + y) :: st)) (hp : pc + 1 = pc' := by rfl) : Walk Z own nm rt B ml R h0 W Q ws Ts Li h cells slots pc Ls (.long y :: .long x :: st) :=
  Walk.lift (fun _ _ _ _ _ _ _ h hx hc r => XT.ladd h hx rfl (hb hc hd) rfl (by subst hp; exact r)) k'
theorem Walk.lsub {x y : Int64} (hd : decode B pc = .ok (.lsub, 1)) (k' : Walk Z own nm rt B ml R h0 W Q ws Ts Li h cells slots pc' Ls (.long (x - y) :: st)) (hp : pc + 1 = pc' := by rfl) : Walk Z own nm rt B ml R h0 W Q ws Ts Li h cells slots pc Ls (.long y :: .long x :: st) :=
  Walk.lift (fun _ _ _ _ _ _ _ h hx hc r => XT.lsub h hx rfl (hb hc hd) rfl (by subst hp; exact r)) k'
theorem Walk.lmul {x y : Int64} (hd : decode B pc = .ok (.lmul, 1)) (k' : Walk Z own nm rt B ml R h0 W Q ws Ts Li h cells slots pc' Ls (.long (x * y) :: st)) (hp : pc + 1 = pc' := by rfl) : Walk Z own nm rt B ml R h0 W Q ws Ts Li h cells slots pc Ls (.long y :: .long x :: st) :=
  Walk.lift (fun _ _ _ _ _ _ _ h hx hc r => XT.lmul h hx rfl (hb hc hd) rfl (by subst hp; exact r)) k'
theorem Walk.land {x y : Int64} (hd : decode B pc = .ok (.land, 1)) (k' : Walk Z own nm rt B ml R h0 W Q ws Ts Li h cells slots pc' Ls (.long (x &&& y) :: st)) (hp : pc + 1 = pc' := by rfl) : Walk Z own nm rt B ml R h0 W Q ws Ts Li h cells slots pc Ls (.long y :: .long x :: st) :=
  Walk.lift (fun _ _ _ _ _ _ _ h hx hc r => XT.land h hx rfl (hb hc hd) rfl (by subst hp; exact r)) k'
theorem Walk.lor {x y : Int64} (hd : decode B pc = .ok (.lor, 1)) (k' : Walk Z own nm rt B ml R h0 W Q ws Ts Li h cells slots pc' Ls (.long (x ||| y) :: st)) (hp : pc + 1 = pc' := by rfl) : Walk Z own nm rt B ml R h0 W Q ws Ts Li h cells slots pc Ls (.long y :: .long x :: st) :=
  Walk.lift (fun _ _ _ _ _ _ _ h hx hc r => XT.lor h hx rfl (hb hc hd) rfl (by subst hp; exact r)) k'
theorem Walk.lxor {x y : Int64} (hd : decode B pc = .ok (.lxor, 1)) (k' : Walk Z own nm rt B ml R h0 W Q ws Ts Li h cells slots pc' Ls (.long (x ^^^ y) :: st)) (hp : pc + 1 = pc' := by rfl) : Walk Z own nm rt B ml R h0 W Q ws Ts Li h cells slots pc Ls (.long y :: .long x :: st) :=
  Walk.lift (fun _ _ _ _ _ _ _ h hx hc r => XT.lxor h hx rfl (hb hc hd) rfl (by subst hp; exact r)) k'
theorem Walk.ldiv {x y : Int64} (hd : decode B pc = .ok (.ldiv, 1)) (hy : y ≠ 0) (k' : Walk Z own nm rt B ml R h0 W Q ws Ts Li h cells slots pc' Ls (.long (x / y) :: st)) (hp : pc + 1 = pc' := by rfl) : Walk Z own nm rt B ml R h0 W Q ws Ts Li h cells slots pc Ls (.long y :: .long x :: st) :=
  Walk.lift (fun _ _ _ _ _ _ _ h hx hc r => XT.ldiv h hx rfl (hb hc hd) rfl hy (by subst hp; exact r)) k'
theorem Walk.lrem {x y : Int64} (hd : decode B pc = .ok (.lrem, 1)) (hy : y ≠ 0) (k' : Walk Z own nm rt B ml R h0 W Q ws Ts Li h cells slots pc' Ls (.long (x - (x / y) * y) :: st)) (hp : pc + 1 = pc' := by rfl) : Walk Z own nm rt B ml R h0 W Q ws Ts Li h cells slots pc Ls (.long y :: .long x :: st) :=
  Walk.lift (fun _ _ _ _ _ _ _ h hx hc r => XT.lrem h hx rfl (hb hc hd) rfl hy (by subst hp; exact r)) k'
theorem Walk.lshl {x : Int64} {y : Int32} (hd : decode B pc = .ok (.lshl, 1)) (k' : Walk Z own nm rt B ml R h0 W Q ws Ts Li h cells slots pc' Ls (.long (x <<< (y.toInt64 &&& 63)) :: st)) (hp : pc + 1 = pc' := by rfl) : Walk Z own nm rt B ml R h0 W Q ws Ts Li h cells slots pc Ls (.int y :: .long x :: st) :=
  Walk.lift (fun _ _ _ _ _ _ _ h hx hc r => XT.lshl h hx rfl (hb hc hd) rfl (by subst hp; exact r)) k'
theorem Walk.lshr {x : Int64} {y : Int32} (hd : decode B pc = .ok (.lshr, 1)) (k' : Walk Z own nm rt B ml R h0 W Q ws Ts Li h cells slots pc' Ls (.long (x >>> (y.toInt64 &&& 63)) :: st)) (hp : pc + 1 = pc' := by rfl) : Walk Z own nm rt B ml R h0 W Q ws Ts Li h cells slots pc Ls (.int y :: .long x :: st) :=
  Walk.lift (fun _ _ _ _ _ _ _ h hx hc r => XT.lshr h hx rfl (hb hc hd) rfl (by subst hp; exact r)) k'
theorem Walk.lushr {x : Int64} {y : Int32} (hd : decode B pc = .ok (.lushr, 1)) (k' : Walk Z own nm rt B ml R h0 W Q ws Ts Li h cells slots pc' Ls (.long (XT.ushrL x y) :: st)) (hp : pc + 1 = pc' := by rfl) : Walk Z own nm rt B ml R h0 W Q ws Ts Li h cells slots pc Ls (.int y :: .long x :: st) :=
  Walk.lift (fun _ _ _ _ _ _ _ h hx hc r => XT.lushr h hx rfl (hb hc hd) rfl (by subst hp; exact r)) k'
theorem Walk.lneg {x : Int64} (hd : decode B pc = .ok (.lneg, 1)) (k' : Walk Z own nm rt B ml R h0 W Q ws Ts Li h cells slots pc' Ls (.long (-x) :: st)) (hp : pc + 1 = pc' := by rfl) : Walk Z own nm rt B ml R h0 W Q ws Ts Li h cells slots pc Ls (.long x :: st) :=
  Walk.lift (fun _ _ _ _ _ _ _ h hx hc r => XT.lneg h hx rfl (hb hc hd) rfl (by subst hp; exact r)) k'
theorem Walk.lcmp {x y : Int64} (hd : decode B pc = .ok (.lcmp, 1)) (k' : Walk Z own nm rt B ml R h0 W Q ws Ts Li h cells slots pc' Ls (.int (XT.cmpL x y) :: st)) (hp : pc + 1 = pc' := by rfl) : Walk Z own nm rt B ml R h0 W Q ws Ts Li h cells slots pc Ls (.long y :: .long x :: st) :=
  Walk.lift (fun _ _ _ _ _ _ _ h hx hc r => XT.lcmp h hx rfl (hb hc hd) rfl (by subst hp; exact r)) k'
theorem Walk.i2l {x : Int32} (hd : decode B pc = .ok (.i2l, 1)) (k' : Walk Z own nm rt B ml R h0 W Q ws Ts Li h cells slots pc' Ls (.long x.toInt64 :: st)) (hp : pc + 1 = pc' := by rfl) : Walk Z own nm rt B ml R h0 W Q ws Ts Li h cells slots pc Ls (.int x :: st) :=
  Walk.lift (fun _ _ _ _ _ _ _ h hx hc r => XT.i2l h hx rfl (hb hc hd) rfl (by subst hp; exact r)) k'
theorem Walk.l2i {x : Int64} (hd : decode B pc = .ok (.l2i, 1)) (k' : Walk Z own nm rt B ml R h0 W Q ws Ts Li h cells slots pc' Ls (.int x.toInt32 :: st)) (hp : pc + 1 = pc' := by rfl) : Walk Z own nm rt B ml R h0 W Q ws Ts Li h cells slots pc Ls (.long x :: st) :=
  Walk.lift (fun _ _ _ _ _ _ _ h hx hc r => XT.l2i h hx rfl (hb hc hd) rfl (by subst hp; exact r)) k'
theorem Walk.i2b {x : Int32} (hd : decode B pc = .ok (.i2b, 1)) (k' : Walk Z own nm rt B ml R h0 W Q ws Ts Li h cells slots pc' Ls (.int x.toInt8.toInt32 :: st)) (hp : pc + 1 = pc' := by rfl) : Walk Z own nm rt B ml R h0 W Q ws Ts Li h cells slots pc Ls (.int x :: st) :=
  Walk.lift (fun _ _ _ _ _ _ _ h hx hc r => XT.i2b h hx rfl (hb hc hd) rfl (by subst hp; exact r)) k'
theorem Walk.i2c {x : Int32} (hd : decode B pc = .ok (.i2c, 1)) (k' : Walk Z own nm rt B ml R h0 W Q ws Ts Li h cells slots pc' Ls (.int x.toUInt32.toUInt16.toUInt32.toInt32 :: st)) (hp : pc + 1 = pc' := by rfl) : Walk Z own nm rt B ml R h0 W Q ws Ts Li h cells slots pc Ls (.int x :: st) :=
  Walk.lift (fun _ _ _ _ _ _ _ h hx hc r => XT.i2c h hx rfl (hb hc hd) rfl (by subst hp; exact r)) k'
theorem Walk.i2s {x : Int32} (hd : decode B pc = .ok (.i2s, 1)) (k' : Walk Z own nm rt B ml R h0 W Q ws Ts Li h cells slots pc' Ls (.int x.toInt16.toInt32 :: st)) (hp : pc + 1 = pc' := by rfl) : Walk Z own nm rt B ml R h0 W Q ws Ts Li h cells slots pc Ls (.int x :: st) :=
  Walk.lift (fun _ _ _ _ _ _ _ h hx hc r => XT.i2s h hx rfl (hb hc hd) rfl (by subst hp; exact r)) k'
theorem Walk.dup {x : Value} (hd : decode B pc = .ok (.dup, 1)) (hc1 : x.category = 1) (k' : Walk Z own nm rt B ml R h0 W Q ws Ts Li h cells slots pc' Ls (x :: x :: st)) (hp : pc + 1 = pc' := by rfl) : Walk Z own nm rt B ml R h0 W Q ws Ts Li h cells slots pc Ls (x :: st) :=
  Walk.lift (fun _ _ _ _ _ _ _ h hx hc r => XS.dup h hx rfl (hb hc hd) rfl hc1 (by subst hp; exact r)) k'
theorem Walk.pop {x : Value} (hd : decode B pc = .ok (.pop, 1)) (hc1 : x.category = 1) (k' : Walk Z own nm rt B ml R h0 W Q ws Ts Li h cells slots pc' Ls (st)) (hp : pc + 1 = pc' := by rfl) : Walk Z own nm rt B ml R h0 W Q ws Ts Li h cells slots pc Ls (x :: st) :=
  Walk.lift (fun _ _ _ _ _ _ _ h hx hc r => XT.pop h hx rfl (hb hc hd) rfl hc1 (by subst hp; exact r)) k'
theorem Walk.dupX1 {x y : Value} (hd : decode B pc = .ok (.dup_x1, 1)) (hc1 : x.category = 1) (hc2 : y.category = 1) (k' : Walk Z own nm rt B ml R h0 W Q ws Ts Li h cells slots pc' Ls (x :: y :: x :: st)) (hp : pc + 1 = pc' := by rfl) : Walk Z own nm rt B ml R h0 W Q ws Ts Li h cells slots pc Ls (x :: y :: st) :=
  Walk.lift (fun _ _ _ _ _ _ _ h hx hc r => XT.dupX1 h hx rfl (hb hc hd) rfl hc1 hc2 (by subst hp; exact r)) k'
theorem Walk.dup2 {x y : Value} (hd : decode B pc = .ok (.dup2, 1)) (hc1 : x.category = 1) (hc2 : y.category = 1) (k' : Walk Z own nm rt B ml R h0 W Q ws Ts Li h cells slots pc' Ls (x :: y :: x :: y :: st)) (hp : pc + 1 = pc' := by rfl) : Walk Z own nm rt B ml R h0 W Q ws Ts Li h cells slots pc Ls (x :: y :: st) :=
  Walk.lift (fun _ _ _ _ _ _ _ h hx hc r => XT.dup2 h hx rfl (hb hc hd) rfl hc1 hc2 (by subst hp; exact r)) k'
theorem Walk.dup2L {x : Int64} (hd : decode B pc = .ok (.dup2, 1)) (k' : Walk Z own nm rt B ml R h0 W Q ws Ts Li h cells slots pc' Ls (.long x :: .long x :: st)) (hp : pc + 1 = pc' := by rfl) : Walk Z own nm rt B ml R h0 W Q ws Ts Li h cells slots pc Ls (.long x :: st) :=
  Walk.lift (fun _ _ _ _ _ _ _ h hx hc r => XT.dup2L h hx rfl (hb hc hd) rfl (by subst hp; exact r)) k'
theorem Walk.istoreN {k : Fin 4} {x : Int32} (hd : decode B pc = .ok (.istore_n k, 1)) (hl : storeLocals Ls k.val (.int x) = some Ls') (k' : Walk Z own nm rt B ml R h0 W Q ws Ts Li h cells slots pc' Ls' (st)) (hp : pc + 1 = pc' := by rfl) : Walk Z own nm rt B ml R h0 W Q ws Ts Li h cells slots pc Ls (.int x :: st) :=
  Walk.lift (fun _ _ _ _ _ _ _ h hx hc r => XS.istoreN h hx rfl (hb hc hd) rfl hl (by subst hp; exact r)) k'
theorem Walk.istore {k : Nat} {x : Int32} (hd : decode B pc = .ok (.istore k, 2)) (hl : storeLocals Ls k (.int x) = some Ls') (k' : Walk Z own nm rt B ml R h0 W Q ws Ts Li h cells slots pc' Ls' (st)) (hp : pc + 2 = pc' := by rfl) : Walk Z own nm rt B ml R h0 W Q ws Ts Li h cells slots pc Ls (.int x :: st) :=
  Walk.lift (fun _ _ _ _ _ _ _ h hx hc r => XS.istore h hx rfl (hb hc hd) rfl hl (by subst hp; exact r)) k'
theorem Walk.lstoreN {k : Fin 4} {x : Int64} (hd : decode B pc = .ok (.lstore_n k, 1)) (hl : storeLocals Ls k.val (.long x) = some Ls') (k' : Walk Z own nm rt B ml R h0 W Q ws Ts Li h cells slots pc' Ls' (st)) (hp : pc + 1 = pc' := by rfl) : Walk Z own nm rt B ml R h0 W Q ws Ts Li h cells slots pc Ls (.long x :: st) :=
  Walk.lift (fun _ _ _ _ _ _ _ h hx hc r => XT.lstoreN h hx rfl (hb hc hd) rfl hl (by subst hp; exact r)) k'
theorem Walk.lstore {k : Nat} {x : Int64} (hd : decode B pc = .ok (.lstore k, 2)) (hl : storeLocals Ls k (.long x) = some Ls') (k' : Walk Z own nm rt B ml R h0 W Q ws Ts Li h cells slots pc' Ls' (st)) (hp : pc + 2 = pc' := by rfl) : Walk Z own nm rt B ml R h0 W Q ws Ts Li h cells slots pc Ls (.long x :: st) :=
  Walk.lift (fun _ _ _ _ _ _ _ h hx hc r => XT.lstore h hx rfl (hb hc hd) rfl hl (by subst hp; exact r)) k'
theorem Walk.astoreN {k : Fin 4} {x : Value} (hd : decode B pc = .ok (.astore_n k, 1)) (hv : x.isRef = true) (hl : storeLocals Ls k.val x = some Ls') (k' : Walk Z own nm rt B ml R h0 W Q ws Ts Li h cells slots pc' Ls' (st)) (hp : pc + 1 = pc' := by rfl) : Walk Z own nm rt B ml R h0 W Q ws Ts Li h cells slots pc Ls (x :: st) :=
  Walk.lift (fun _ _ _ _ _ _ _ h hx hc r => XS.astoreN h hx rfl (hb hc hd) rfl hv hl (by subst hp; exact r)) k'
theorem Walk.astore {k : Nat} {x : Value} (hd : decode B pc = .ok (.astore k, 2)) (hv : x.isRef = true) (hl : storeLocals Ls k x = some Ls') (k' : Walk Z own nm rt B ml R h0 W Q ws Ts Li h cells slots pc' Ls' (st)) (hp : pc + 2 = pc' := by rfl) : Walk Z own nm rt B ml R h0 W Q ws Ts Li h cells slots pc Ls (x :: st) :=
  Walk.lift (fun _ _ _ _ _ _ _ h hx hc r => XS.astore h hx rfl (hb hc hd) rfl hv hl (by subst hp; exact r)) k'
theorem Walk.iinc {k : Nat} {cst : Int} {x : Int32} (v : Int32) (hd : decode B pc = .ok (.iinc k cst, 3)) (hv : Int32.ofInt cst = v) (hl0 : Ls[k]? = some (.val (.int x))) (hl : storeLocals Ls k (.int (x + v)) = some Ls') (k' : Walk Z own nm rt B ml R h0 W Q ws Ts Li h cells slots pc' Ls' (st)) (hp : pc + 3 = pc' := by rfl) : Walk Z own nm rt B ml R h0 W Q ws Ts Li h cells slots pc Ls (st) :=
  Walk.lift (fun _ _ _ _ _ _ _ h hx hc r => XT.iincV h hx rfl v (hb hc hd) hv hl0 hl (by subst hp; exact r)) k'
theorem Walk.goto {off : Int} (hd : decode B pc = .ok (.goto off, 3)) (k' : Walk Z own nm rt B ml R h0 W Q ws Ts Li h cells slots pc' Ls (st)) (ho : 0 ≤ (pc : Int) + off := by decide) (hp : ((pc : Int) + off).toNat = pc' := by rfl) : Walk Z own nm rt B ml R h0 W Q ws Ts Li h cells slots pc Ls (st) :=
  Walk.lift (fun _ _ _ _ _ _ _ h hx hc r => XS.goto h hx rfl (pc0 := pc) (pc' := pc') rfl (hb hc hd) ho hp r) k'
theorem Walk.ifYes {off : Int} {cd : ClassFile.Cond} {x : Int32} (hd : decode B pc = .ok (.ifCond cd off, 3)) (hc1 : ifCond.holds cd x = true) (k' : Walk Z own nm rt B ml R h0 W Q ws Ts Li h cells slots pc' Ls (st)) (ho : 0 ≤ (pc : Int) + off := by decide) (hp : ((pc : Int) + off).toNat = pc' := by rfl) : Walk Z own nm rt B ml R h0 W Q ws Ts Li h cells slots pc Ls (.int x :: st) :=
  Walk.lift (fun _ _ _ _ _ _ _ h hx hc r => XS.ifYes h hx rfl (pc0 := pc) (pc' := pc') rfl (hb hc hd) rfl hc1 ho hp r) k'
theorem Walk.ifNo {cd : ClassFile.Cond} {off : Int} {x : Int32} (hd : decode B pc = .ok (.ifCond cd off, 3)) (hc1 : ifCond.holds cd x = false) (k' : Walk Z own nm rt B ml R h0 W Q ws Ts Li h cells slots pc' Ls (st)) (hp : pc + 3 = pc' := by rfl) : Walk Z own nm rt B ml R h0 W Q ws Ts Li h cells slots pc Ls (.int x :: st) :=
  Walk.lift (fun _ _ _ _ _ _ _ h hx hc r => XS.ifNo h hx rfl (hb hc hd) rfl hc1 (by subst hp; exact r)) k'
theorem Walk.icYes {off : Int} {cd : ClassFile.Cond} {x y : Int32} (hd : decode B pc = .ok (.if_icmp cd off, 3)) (hc1 : if_icmp.holds cd x y = true) (k' : Walk Z own nm rt B ml R h0 W Q ws Ts Li h cells slots pc' Ls (st)) (ho : 0 ≤ (pc : Int) + off := by decide) (hp : ((pc : Int) + off).toNat = pc' := by rfl) : Walk Z own nm rt B ml R h0 W Q ws Ts Li h cells slots pc Ls (.int y :: .int x :: st) :=
  Walk.lift (fun _ _ _ _ _ _ _ h hx hc r => XS.icmpYes h hx rfl (pc0 := pc) (pc' := pc') rfl (hb hc hd) rfl hc1 ho hp r) k'
theorem Walk.icNo {cd : ClassFile.Cond} {off : Int} {x y : Int32} (hd : decode B pc = .ok (.if_icmp cd off, 3)) (hc1 : if_icmp.holds cd x y = false) (k' : Walk Z own nm rt B ml R h0 W Q ws Ts Li h cells slots pc' Ls (st)) (hp : pc + 3 = pc' := by rfl) : Walk Z own nm rt B ml R h0 W Q ws Ts Li h cells slots pc Ls (.int y :: .int x :: st) :=
  Walk.lift (fun _ _ _ _ _ _ _ h hx hc r => XS.icmpNo h hx rfl (hb hc hd) rfl hc1 (by subst hp; exact r)) k'
theorem Walk.nullYes {off : Int} {v : Value} (hd : decode B pc = .ok (.ifnull off, 3)) (hv : v = .null) (k' : Walk Z own nm rt B ml R h0 W Q ws Ts Li h cells slots pc' Ls (st)) (ho : 0 ≤ (pc : Int) + off := by decide) (hp : ((pc : Int) + off).toNat = pc' := by rfl) : Walk Z own nm rt B ml R h0 W Q ws Ts Li h cells slots pc Ls (v :: st) :=
  Walk.lift (fun _ _ _ _ _ _ _ h hx hc r => XT.nullYes h hx rfl (pc0 := pc) (pc' := pc') rfl (hb hc hd) rfl hv ho hp r) k'
theorem Walk.nullNo {off : Int} {v : Value} (hd : decode B pc = .ok (.ifnull off, 3)) (hr : v.isRef = true) (hv : ¬ v = .null) (k' : Walk Z own nm rt B ml R h0 W Q ws Ts Li h cells slots pc' Ls (st)) (hp : pc + 3 = pc' := by rfl) : Walk Z own nm rt B ml R h0 W Q ws Ts Li h cells slots pc Ls (v :: st) :=
  Walk.lift (fun _ _ _ _ _ _ _ h hx hc r => XT.nullNo h hx rfl (hb hc hd) rfl hr hv (by subst hp; exact r)) k'
theorem Walk.nonnullYes {off : Int} {v : Value} (hd : decode B pc = .ok (.ifnonnull off, 3)) (hr : v.isRef = true) (hv : ¬ v = .null) (k' : Walk Z own nm rt B ml R h0 W Q ws Ts Li h cells slots pc' Ls (st)) (ho : 0 ≤ (pc : Int) + off := by decide) (hp : ((pc : Int) + off).toNat = pc' := by rfl) : Walk Z own nm rt B ml R h0 W Q ws Ts Li h cells slots pc Ls (v :: st) :=
  Walk.lift (fun _ _ _ _ _ _ _ h hx hc r => XT.nonnullYes h hx rfl (pc0 := pc) (pc' := pc') rfl (hb hc hd) rfl hr hv ho hp r) k'
theorem Walk.nonnullNo {off : Int} {v : Value} (hd : decode B pc = .ok (.ifnonnull off, 3)) (hv : v = .null) (k' : Walk Z own nm rt B ml R h0 W Q ws Ts Li h cells slots pc' Ls (st)) (hp : pc + 3 = pc' := by rfl) : Walk Z own nm rt B ml R h0 W Q ws Ts Li h cells slots pc Ls (v :: st) :=
  Walk.lift (fun _ _ _ _ _ _ _ h hx hc r => XT.nonnullNo h hx rfl (hb hc hd) rfl hv (by subst hp; exact r)) k'
theorem Walk.acYes {off : Int} {cd : ClassFile.ACond} {x y : Value} (hd : decode B pc = .ok (.if_acmp cd off, 3)) (h1 : x.isRef = true) (h2 : y.isRef = true) (hc1 : XT.acmp cd x y = true) (k' : Walk Z own nm rt B ml R h0 W Q ws Ts Li h cells slots pc' Ls (st)) (ho : 0 ≤ (pc : Int) + off := by decide) (hp : ((pc : Int) + off).toNat = pc' := by rfl) : Walk Z own nm rt B ml R h0 W Q ws Ts Li h cells slots pc Ls (y :: x :: st) :=
  Walk.lift (fun _ _ _ _ _ _ _ h hx hc r => XT.acmpYes h hx rfl (pc0 := pc) (pc' := pc') rfl (hb hc hd) rfl h1 h2 hc1 ho hp r) k'
theorem Walk.acNo {cd : ClassFile.ACond} {off : Int} {x y : Value} (hd : decode B pc = .ok (.if_acmp cd off, 3)) (h1 : x.isRef = true) (h2 : y.isRef = true) (hc1 : XT.acmp cd x y = false) (k' : Walk Z own nm rt B ml R h0 W Q ws Ts Li h cells slots pc' Ls (st)) (hp : pc + 3 = pc' := by rfl) : Walk Z own nm rt B ml R h0 W Q ws Ts Li h cells slots pc Ls (y :: x :: st) :=
  Walk.lift (fun _ _ _ _ _ _ _ h hx hc r => XT.acmpNo h hx rfl (hb hc hd) rfl h1 h2 hc1 (by subst hp; exact r)) k'
/-! ### steps that touch the heap -/
theorem On.kqOf {p : Program} {l : Launch} {e : Env} {s : State} {m : MethodId} {args : Array Value} {below : List Frame} {meth : Method} {c : Code} {T : State} {locs : List Loc}
    (ho : On Z own nm rt B ml R h0 ws p l e s m args below meth c Ts Li T h locs cells slots) (q : ∀ y, ws y → Fw h0 W y) : Kq h0 h W := by
  obtain ⟨vm0, k0, X, hx, eT, -, -, -, -, -, -, hws, e0, -⟩ := ho
  refine ⟨by rw [← e0, ← eT]; exact X.same.2.1, fun a cl hcl => ?_⟩
  rw [← e0] at hcl
  obtain ⟨c', h1, h2, h3, h4⟩ := X.same.2.2.2.2.2 a cl hcl
  have hlt := (Array.getElem?_eq_some_iff.mp hcl).1
  refine ⟨c', by rw [← eT]; exact h1, by rw [h2], by rw [h2], h3, fun i hi => h4 i fun hm => ?_⟩
  rcases q _ (hws _ hm) with r | r
  · rw [← e0] at r
    exact absurd r (Nat.not_le.mpr hlt)
  · exact hi r
theorem Walk.kept (q : ∀ y, ws y → Fw h0 W y) (k : Kq h0 h W → Walk Z own nm rt B ml R h0 W Q ws Ts Li h cells slots pc Ls st) : Walk Z own nm rt B ml R h0 W Q ws Ts Li h cells slots pc Ls st := by
  intro p l e s m args below meth c T locs ho
  exact k (ho.kqOf q) p l e s m args below meth c T locs ho
theorem Walk.getF {R0 O n d host : String} {index : Nat} {a : Addr} {v : Value} (w : (Cond.fieldLink own index R0 n d).before a0 Z = true ∨ (Cond.fieldLinkNest own index R0 n d host).before a0 Z = true) (via : Via Z R0 O n d) (F : Fld Z h a O n d v) (hd : decode B pc = .ok (.getfield index, 3))
    (k : Walk Z own nm rt B ml R h0 W Q ws Ts Li h cells slots pc' Ls (v :: st)) (hp : pc + 3 = pc' := by rfl) : Walk Z own nm rt B ml R h0 W Q ws Ts Li h cells slots pc Ls (.ref a :: st) := by
  intro p l e s m args below meth c T locs ho
  obtain ⟨vm0, k0, X, hx, eT, a2, a3, a4, a5, a6, a7, a8, a9, a10, hc, r⟩ := ho
  obtain ⟨T', X', e', stp⟩ := RoadKit.getF X hx a4 a5 w via eT F (g := mkF m pc Ls (.ref a :: st)) rfl rfl (hb hc hd)
  subst hp
  obtain ⟨s₂, o, h1, r2⟩ := k p l e s m args below meth c T' locs ⟨vm0, k0, X', hx, e', a2, a3, a4, a5, a6, a7, a8, a9, a10, hc, r⟩
  exact ⟨s₂, o, stp _ h1, r2⟩
theorem Walk.getS {R0 O n d : String} {index : Nat} {v : Value} (w : (Cond.fieldLink own index R0 n d).before a0 Z = true) (via : Via Z R0 O n d) (F : Sta Z Z.heap O n d v) (hd : decode B pc = .ok (.getstatic index, 3))
    (k : Walk Z own nm rt B ml R h0 W Q ws Ts Li h cells slots pc' Ls (v :: st)) (hp : pc + 3 = pc' := by rfl) : Walk Z own nm rt B ml R h0 W Q ws Ts Li h cells slots pc Ls st := by
  refine Walk.old fun E => ?_
  intro p l e s m args below meth c T locs ho
  obtain ⟨vm0, k0, X, hx, eT, a2, a3, a4, a5, a6, a7, a8, a9, a10, hc, r⟩ := ho
  obtain ⟨T', X', e', stp⟩ := RoadKit.getS (host := "") X hx a4 a5 w via eT (F.ext E) (g := mkF m pc Ls st) rfl (hb hc hd)
  subst hp
  obtain ⟨s₂, o, h1, r2⟩ := k p l e s m args below meth c T' locs ⟨vm0, k0, X', hx, e', a2, a3, a4, a5, a6, a7, a8, a9, a10, hc, r⟩
  exact ⟨s₂, o, stp _ h1, r2⟩
theorem Walk.putF {R0 O n d host C : String} {index kk : Nat} {ty : FieldType} {a : Addr} {v old : Value} (w : (Cond.fieldLink own index R0 n d).before a0 Z = true ∨ (Cond.fieldLinkNest own index R0 n d host).before a0 Z = true) (via : Via Z R0 O n d) (F : Fld Z h a O n d old) (E : Exa Z h a C)
    (L : (Cond.lays C O n d).before a0 Z = true ∨ ((Cond.laysFinal C O n d).before a0 Z = true ∧ own = O ∧ nm = "<init>")) (wi : (Cond.instantiable C kk).before a0 Z = true) (hty : parseFieldDescriptor d = some ty) (hn : narrow ty v = v) (hf : fits ty v = true) (hd : decode B pc = .ok (.putfield index, 3))
    (hz : Z.heap.size ≤ a) (hw : ws ⟨a, Jvm.RoadKit.slotOf Z O n d⟩) (k : ∀ h', Kq h h' (fun y => y = ⟨a, Jvm.RoadKit.slotOf Z O n d⟩) → Fld Z h' a O n d v → Walk Z own nm rt B ml R h0 W Q ws Ts Li h' cells slots pc' Ls st) (hp : pc + 3 = pc' := by rfl) : Walk Z own nm rt B ml R h0 W Q ws Ts Li h cells slots pc Ls (v :: .ref a :: st) := by
  intro p l e s m args below meth c T locs ho
  obtain ⟨vm0, k0, X, hx, eT, a2, a3, a4, a5, a6, a7, a8, a9, a10, hc, b1, b2, r⟩ := ho
  obtain ⟨T', h', X', e', Wr', stp⟩ := RoadKit.putF X hx a4 a5 w via eT F E (L.imp id fun q => ⟨q.1, q.2.1, b2.trans q.2.2⟩) wi hty hn hf (g := mkF m pc Ls (v :: .ref a :: st)) rfl rfl (hb hc hd)
  subst hp
  obtain ⟨s₂, o, h1, r2⟩ := k h' (Kq.of_wr Wr') (F.same Wr') p l e s m args below meth c T' _ ⟨vm0, k0, X', hx, e', a2, Nat.le_trans a3 (Nat.le_of_eq Wr'.size.symm), a4, a5, a6, Fr.snoc X' a7 hz, fun y hy => (List.mem_append.mp hy).elim (a8 y) fun q => by cases List.mem_singleton.mp q; exact hw, a9, a10, hc, b1, b2, r⟩
  exact ⟨s₂, o, stp _ h1, r2⟩
theorem Walk.newO {C : String} {index n : Nat} (w : (Cond.classLink own index C).before a0 Z = true) (wi : (Cond.instantiable C n).before a0 Z = true) (wz : (Cond.initialized C).before a0 Z = true) (hd : decode B pc = .ok (.new index, 3)) (hc1 : cells + 1 ≤ R.cells) (hl1 : slots + n ≤ R.slots)
    (k : ∀ h' x, h.size ≤ x → h0.size ≤ x → Z.heap.size ≤ x → Kq h h' noW → Exa Z h' x C → (∀ {O nm d : String} {ty : FieldType}, Laid Z a0 C O nm d → parseFieldDescriptor d = some ty → Fld Z h' x O nm d (defaultValue ty)) → Walk Z own nm rt B ml R h0 W Q ws Ts Li h' (cells + 1) (slots + n) pc' Ls (.ref x :: st)) (hp : pc + 3 = pc' := by rfl) :
    Walk Z own nm rt B ml R h0 W Q ws Ts Li h cells slots pc Ls st := by
  intro p l e s m args below meth c T locs ho
  obtain ⟨vm0, k0, X, hx, eT, a2, a3, a4, a5, a6, a7, a8, a9, a10, hc, r⟩ := ho
  obtain ⟨T', h', X', e', E', A', D', -, stp⟩ := RoadKit.newO X hx a4 a5 w wi wz eT (g := mkF m pc Ls st) rfl (hb hc hd) hc1 hl1
  subst hp
  have g1 : h0.size ≤ h.size := by rw [← a9, ← eT]; exact X.same.2.1
  have g2 : Z.heap.size ≤ h.size := Nat.le_trans (by rw [← a9]; exact a10.1) g1
  obtain ⟨s₂, o, h1, r2⟩ := k h' h.size (Nat.le_refl _) g1 g2 (Kq.of_ext E') A' D' p l e s m args below meth c T' locs ⟨vm0, k0, X', hx, e', a2, Nat.le_trans a3 E'.1, a4, a5, a6, a7, a8, a9, a10, hc, r⟩
  exact ⟨s₂, o, stp _ h1, r2⟩
theorem Av.of_new {k : ClassId} {z : Int32} {a : Addr} {ty : FieldType} (A : Arr Z h a (newA k ty z) ty) (q : ¬ z < 0) : Av Z h a ty z.toNatClampNeg (fun _ => defaultValue ty) := by
  refine ⟨_, A, sz_new _ _ _, (back32 q).2, fun i hi => ?_⟩
  simp [newA, hi]
theorem Walk.newA {aty : ArrayType} {n : Int32} (w : (Cond.arrayClass (newarray.typeOf aty)).before a0 Z = true) (hd : decode B pc = .ok (.newarray aty, 2)) (hn : ¬ n < 0) {cap : Nat} (hcap : n.toNatClampNeg ≤ cap) (hb8 : cap * 8 ≤ 536870912) (hc1 : cells + 1 ≤ R.cells) (hl1 : slots + cap ≤ R.slots)
    (k : ∀ h' x, h.size ≤ x → h0.size ≤ x → Z.heap.size ≤ x → Kq h h' noW → Av Z h' x (newarray.typeOf aty) n.toNatClampNeg (fun _ => defaultValue (newarray.typeOf aty)) → (∃ cA, Arv Z h' x cA (newarray.typeOf aty) n [] (defaultValue (newarray.typeOf aty))) → Walk Z own nm rt B ml R h0 W Q ws Ts Li h' (cells + 1) (slots + cap) pc' Ls (.ref x :: st)) (hp : pc + 2 = pc' := by rfl) :
    Walk Z own nm rt B ml R h0 W Q ws Ts Li h cells slots pc Ls (.int n :: st) := by
  intro p l e s m args below meth c T locs ho
  obtain ⟨vm0, k0, X, hx, eT, a2, a3, a4, a5, a6, a7, a8, a9, a10, hc, r⟩ := ho
  obtain ⟨T', h', cA, X', e', E', A', stp⟩ := RoadKit.newP X hx a4 w eT (g := mkF m pc Ls (.int n :: st)) rfl (hb hc hd) rfl hn hcap hb8 hc1 hl1
  subst hp
  have g1 : h0.size ≤ h.size := by rw [← a9, ← eT]; exact X.same.2.1
  have g2 : Z.heap.size ≤ h.size := Nat.le_trans (by rw [← a9]; exact a10.1) g1
  obtain ⟨s₂, o, h1, r2⟩ := k h' h.size (Nat.le_refl _) g1 g2 (Kq.of_ext E') (Av.of_new A' hn) ⟨cA, Arv.new A' hn⟩ p l e s m args below meth c T' locs ⟨vm0, k0, X', hx, e', a2, Nat.le_trans a3 E'.1, a4, a5, a6, a7, a8, a9, a10, hc, r⟩
  exact ⟨s₂, o, stp _ h1, r2⟩
theorem Walk.castY {K : String} {index : Nat} {a : Addr} (w : (Cond.classLink own index K).before a0 Z = true) (F : Ins Z h a K true) (hd : decode B pc = .ok (.checkcast index, 3))
    (k : Walk Z own nm rt B ml R h0 W Q ws Ts Li h cells slots pc' Ls (.ref a :: st)) (hp : pc + 3 = pc' := by rfl) : Walk Z own nm rt B ml R h0 W Q ws Ts Li h cells slots pc Ls (.ref a :: st) := by
  intro p l e s m args below meth c T locs ho
  obtain ⟨vm0, k0, X, hx, eT, a2, a3, a4, a5, a6, a7, a8, a9, a10, hc, r⟩ := ho
  obtain ⟨T', X', e', stp⟩ := RoadKit.castY X hx a4 a5 w eT F (g := mkF m pc Ls (.ref a :: st)) rfl rfl (hb hc hd)
  subst hp
  obtain ⟨s₂, o, h1, r2⟩ := k p l e s m args below meth c T' locs ⟨vm0, k0, X', hx, e', a2, a3, a4, a5, a6, a7, a8, a9, a10, hc, r⟩
  exact ⟨s₂, o, stp _ h1, r2⟩
theorem Walk.instY {K : String} {index : Nat} {a : Addr} (w : (Cond.classLink own index K).before a0 Z = true) (F : Ins Z h a K true) (hd : decode B pc = .ok (.instanceof index, 3))
    (k : Walk Z own nm rt B ml R h0 W Q ws Ts Li h cells slots pc' Ls (.int 1 :: st)) (hp : pc + 3 = pc' := by rfl) : Walk Z own nm rt B ml R h0 W Q ws Ts Li h cells slots pc Ls (.ref a :: st) := by
  intro p l e s m args below meth c T locs ho
  obtain ⟨vm0, k0, X, hx, eT, a2, a3, a4, a5, a6, a7, a8, a9, a10, hc, r⟩ := ho
  obtain ⟨T', X', e', stp⟩ := RoadKit.instY X hx a4 a5 w eT F (g := mkF m pc Ls (.ref a :: st)) rfl rfl (hb hc hd)
  subst hp
  obtain ⟨s₂, o, h1, r2⟩ := k p l e s m args below meth c T' locs ⟨vm0, k0, X', hx, e', a2, a3, a4, a5, a6, a7, a8, a9, a10, hc, r⟩
  exact ⟨s₂, o, stp _ h1, r2⟩
/-! arrays -/
theorem Walk.alen {a : Addr} {ty : FieldType} {n : Nat} {f : Nat → Value} (F : Av Z h a ty n f) (hd : decode B pc = .ok (.arraylength, 1)) {z : Int32} (hz : n.toInt32 = z)
    (k : Walk Z own nm rt B ml R h0 W Q ws Ts Li h cells slots pc' Ls (.int z :: st)) (hp : pc + 1 = pc' := by rfl) : Walk Z own nm rt B ml R h0 W Q ws Ts Li h cells slots pc Ls (.ref a :: st) := by
  intro p l e s m args below meth c T locs ho
  obtain ⟨s₂, o, h1, r2⟩ := k p l e s m args below meth c T locs ho
  obtain ⟨vm0, k0, X, hx, eT, a2, a3, a4, a5, a6, a7, a8, a9, a10, hc, r⟩ := ho
  obtain ⟨cl, A, A1, A2, A3⟩ := F
  subst hp hz A1
  exact ⟨s₂, o, X.arraylength hx (by rw [eT]; exact A.1) (State.isArrayOf_alike a4.alike A.2.1) (g := mkF m pc Ls (.ref a :: st)) rfl rfl (hb hc hd) _ h1, r2⟩
theorem idx_of {j : Int32} {i n : Nat} (hj : j = Int32.ofNat i) (hi : i < n) (hn : n < 2147483648) : ¬ (j < 0 ∨ n ≤ j.toNatClampNeg) ∧ j.toNatClampNeg = i := by
  subst hj
  have q : (Int32.ofNat i).toNatClampNeg = i := by
    have := idx_in (i := i) (n := i + 1) (by omega) (by omega)
    have e : (Int32.ofNat i).toInt = i := Int32.toInt_ofNat_small (by omega)
    show (Int32.ofNat i).toInt.toNat = i
    rw [e]; rfl
  exact ⟨q.symm ▸ fun z => z.elim (fun y => by
    have e : (Int32.ofNat i).toInt = i := Int32.toInt_ofNat_small (by omega)
    rw [Int32.lt_iff_toInt_lt, e] at y
    have : (0 : Int32).toInt = 0 := rfl
    omega) (fun y => by omega), q⟩
theorem Walk.iaload {a : Addr} {n i : Nat} {f : Nat → Value} {j : Int32} {v : Value} (F : Av Z h a .int n f) (hd : decode B pc = .ok (.iaload, 1)) (hj0 : ¬ j < 0) (hj : j.toNatClampNeg = i) (hi : i < n) (hv : f i = v)
    (k : Walk Z own nm rt B ml R h0 W Q ws Ts Li h cells slots pc' Ls (v :: st)) (hp : pc + 1 = pc' := by rfl) : Walk Z own nm rt B ml R h0 W Q ws Ts Li h cells slots pc Ls (.int j :: .ref a :: st) := by
  intro p l e s m args below meth c T locs ho
  obtain ⟨s₂, o, h1, r2⟩ := k p l e s m args below meth c T locs ho
  obtain ⟨vm0, k0, X, hx, eT, a2, a3, a4, a5, a6, a7, a8, a9, a10, hc, r⟩ := ho
  obtain ⟨cl, A, A1, A2, A3⟩ := F
  subst hp hv A1 hj
  exact ⟨s₂, o, X.iaload hx (by rw [eT]; exact A.1) (State.isArrayOf_alike a4.alike A.2.1) A.2.2 (fun q => q.elim hj0 fun q => absurd hi (Nat.not_lt.mpr q)) (A3 _ hi) (g := mkF m pc Ls (.int j :: .ref a :: st)) rfl rfl (hb hc hd) _ h1, r2⟩
theorem Walk.laload {a : Addr} {n i : Nat} {f : Nat → Value} {j : Int32} {v : Value} (F : Av Z h a .long n f) (hd : decode B pc = .ok (.laload, 1)) (hj0 : ¬ j < 0) (hj : j.toNatClampNeg = i) (hi : i < n) (hv : f i = v)
    (k : Walk Z own nm rt B ml R h0 W Q ws Ts Li h cells slots pc' Ls (v :: st)) (hp : pc + 1 = pc' := by rfl) : Walk Z own nm rt B ml R h0 W Q ws Ts Li h cells slots pc Ls (.int j :: .ref a :: st) := by
  intro p l e s m args below meth c T locs ho
  obtain ⟨s₂, o, h1, r2⟩ := k p l e s m args below meth c T locs ho
  obtain ⟨vm0, k0, X, hx, eT, a2, a3, a4, a5, a6, a7, a8, a9, a10, hc, r⟩ := ho
  obtain ⟨cl, A, A1, A2, A3⟩ := F
  subst hp hv A1 hj
  exact ⟨s₂, o, X.laload hx (by rw [eT]; exact A.1) (State.isArrayOf_alike a4.alike A.2.1) A.2.2 (fun q => q.elim hj0 fun q => absurd hi (Nat.not_lt.mpr q)) (A3 _ hi) (g := mkF m pc Ls (.int j :: .ref a :: st)) rfl rfl (hb hc hd) _ h1, r2⟩
theorem Walk.caload {a : Addr} {n i : Nat} {f : Nat → Value} {j : Int32} {v : Value} (F : Av Z h a .char n f) (hd : decode B pc = .ok (.caload, 1)) (hj0 : ¬ j < 0) (hj : j.toNatClampNeg = i) (hi : i < n) (hv : f i = v)
    (k : Walk Z own nm rt B ml R h0 W Q ws Ts Li h cells slots pc' Ls (v :: st)) (hp : pc + 1 = pc' := by rfl) : Walk Z own nm rt B ml R h0 W Q ws Ts Li h cells slots pc Ls (.int j :: .ref a :: st) := by
  intro p l e s m args below meth c T locs ho
  obtain ⟨s₂, o, h1, r2⟩ := k p l e s m args below meth c T locs ho
  obtain ⟨vm0, k0, X, hx, eT, a2, a3, a4, a5, a6, a7, a8, a9, a10, hc, r⟩ := ho
  obtain ⟨cl, A, A1, A2, A3⟩ := F
  subst hp hv A1 hj
  exact ⟨s₂, o, X.caload hx (by rw [eT]; exact A.1) (State.isArrayOf_alike a4.alike A.2.1) A.2.2 (fun q => q.elim hj0 fun q => absurd hi (Nat.not_lt.mpr q)) (A3 _ hi) (g := mkF m pc Ls (.int j :: .ref a :: st)) rfl rfl (hb hc hd) _ h1, r2⟩
theorem Walk.saload {a : Addr} {n i : Nat} {f : Nat → Value} {j : Int32} {v : Value} (F : Av Z h a .short n f) (hd : decode B pc = .ok (.saload, 1)) (hj0 : ¬ j < 0) (hj : j.toNatClampNeg = i) (hi : i < n) (hv : f i = v)
    (k : Walk Z own nm rt B ml R h0 W Q ws Ts Li h cells slots pc' Ls (v :: st)) (hp : pc + 1 = pc' := by rfl) : Walk Z own nm rt B ml R h0 W Q ws Ts Li h cells slots pc Ls (.int j :: .ref a :: st) := by
  intro p l e s m args below meth c T locs ho
  obtain ⟨s₂, o, h1, r2⟩ := k p l e s m args below meth c T locs ho
  obtain ⟨vm0, k0, X, hx, eT, a2, a3, a4, a5, a6, a7, a8, a9, a10, hc, r⟩ := ho
  obtain ⟨cl, A, A1, A2, A3⟩ := F
  subst hp hv A1 hj
  exact ⟨s₂, o, X.saload hx (by rw [eT]; exact A.1) (State.isArrayOf_alike a4.alike A.2.1) A.2.2 (fun q => q.elim hj0 fun q => absurd hi (Nat.not_lt.mpr q)) (A3 _ hi) (g := mkF m pc Ls (.int j :: .ref a :: st)) rfl rfl (hb hc hd) _ h1, r2⟩
theorem Walk.baload {a : Addr} {n i : Nat} {f : Nat → Value} {j : Int32} {v : Value} (F : Av Z h a .byte n f) (hd : decode B pc = .ok (.baload, 1)) (hj0 : ¬ j < 0) (hj : j.toNatClampNeg = i) (hi : i < n) (hv : f i = v)
    (k : Walk Z own nm rt B ml R h0 W Q ws Ts Li h cells slots pc' Ls (v :: st)) (hp : pc + 1 = pc' := by rfl) : Walk Z own nm rt B ml R h0 W Q ws Ts Li h cells slots pc Ls (.int j :: .ref a :: st) := by
  intro p l e s m args below meth c T locs ho
  obtain ⟨s₂, o, h1, r2⟩ := k p l e s m args below meth c T locs ho
  obtain ⟨vm0, k0, X, hx, eT, a2, a3, a4, a5, a6, a7, a8, a9, a10, hc, r⟩ := ho
  obtain ⟨cl, A, A1, A2, A3⟩ := F
  subst hp hv A1 hj
  exact ⟨s₂, o, X.baloadBytes hx (by rw [eT]; exact A.1) (State.isArrayOf_alike a4.alike A.2.1) A.2.2 (fun q => q.elim hj0 fun q => absurd hi (Nat.not_lt.mpr q)) (A3 _ hi) (g := mkF m pc Ls (.int j :: .ref a :: st)) rfl rfl (hb hc hd) _ h1, r2⟩
theorem Walk.zaload {a : Addr} {n i : Nat} {f : Nat → Value} {j : Int32} {v : Value} (F : Av Z h a .boolean n f) (hd : decode B pc = .ok (.baload, 1)) (hj0 : ¬ j < 0) (hj : j.toNatClampNeg = i) (hi : i < n) (hv : f i = v)
    (k : Walk Z own nm rt B ml R h0 W Q ws Ts Li h cells slots pc' Ls (v :: st)) (hp : pc + 1 = pc' := by rfl) : Walk Z own nm rt B ml R h0 W Q ws Ts Li h cells slots pc Ls (.int j :: .ref a :: st) := by
  intro p l e s m args below meth c T locs ho
  obtain ⟨s₂, o, h1, r2⟩ := k p l e s m args below meth c T locs ho
  obtain ⟨vm0, k0, X, hx, eT, a2, a3, a4, a5, a6, a7, a8, a9, a10, hc, r⟩ := ho
  obtain ⟨cl, A, A1, A2, A3⟩ := F
  subst hp hv A1 hj
  exact ⟨s₂, o, X.baloadBooleans hx (by rw [eT]; exact A.1) (State.isArrayOf_alike a4.alike A.2.1) A.2.2 (fun q => q.elim hj0 fun q => absurd hi (Nat.not_lt.mpr q)) (A3 _ hi) (g := mkF m pc Ls (.int j :: .ref a :: st)) rfl rfl (hb hc hd) _ h1, r2⟩
theorem Walk.aaload {a : Addr} {ty : FieldType} {n i : Nat} {f : Nat → Value} {j : Int32} {v : Value} (F : Av Z h a ty n f) (hty : ty.isReference = true) (hd : decode B pc = .ok (.aaload, 1)) (hj0 : ¬ j < 0) (hj : j.toNatClampNeg = i) (hi : i < n) (hv : f i = v)
    (k : Walk Z own nm rt B ml R h0 W Q ws Ts Li h cells slots pc' Ls (v :: st)) (hp : pc + 1 = pc' := by rfl) : Walk Z own nm rt B ml R h0 W Q ws Ts Li h cells slots pc Ls (.int j :: .ref a :: st) := by
  intro p l e s m args below meth c T locs ho
  obtain ⟨s₂, o, h1, r2⟩ := k p l e s m args below meth c T locs ho
  obtain ⟨vm0, k0, X, hx, eT, a2, a3, a4, a5, a6, a7, a8, a9, a10, hc, r⟩ := ho
  obtain ⟨cl, A, A1, A2, A3⟩ := F
  subst hp hv A1 hj
  exact ⟨s₂, o, X.aaload hx (by rw [eT]; exact A.1) (State.isArrayOf_alike a4.alike A.2.1) hty A.2.2 (fun q => q.elim hj0 fun q => absurd hi (Nat.not_lt.mpr q)) (A3 _ hi) (g := mkF m pc Ls (.int j :: .ref a :: st)) rfl rfl (hb hc hd) _ h1, r2⟩
theorem Av.wr {a : Addr} {ty : FieldType} {n i : Nat} {f : Nat → Value} {v : Value} {h' : Heap} (F : Av Z h a ty n f) (Wr' : Wr h h' a i v) : Av Z h' a ty n (fun k => if k = i then v else f k) := by
  obtain ⟨cl, A, A1, A2, A3⟩ := F
  refine ⟨_, A.same Wr', by simp [Cell.setSlot, A1], A2, fun k hk => ?_⟩
  obtain ⟨_, _, _, hlt, -⟩ := Wr'
  by_cases e : k = i
  · subst e
    simp [Cell.setSlot, A1, hk]
  · show _ = some (if k = i then v else f k)
    rw [if_neg e]
    simp only [Cell.setSlot]
    rw [Array.getElem?_setIfInBounds_ne (Ne.symm e)]; exact A3 k hk
theorem Walk.iastore {a : Addr} {n i : Nat} {f : Nat → Value} {j : Int32} {x : Int32} (F : Av Z h a .int n f) (hd : decode B pc = .ok (.iastore, 1)) (hj0 : ¬ j < 0) (hj : j.toNatClampNeg = i) (hi : i < n) (hz : Z.heap.size ≤ a) (hw : ws ⟨a, i⟩)
    (k : ∀ h', Kq h h' (fun y => y = ⟨a, i⟩) → Av Z h' a .int n (fun k => if k = i then .int x else f k) → Wr h h' a i (.int x) → Walk Z own nm rt B ml R h0 W Q ws Ts Li h' cells slots pc' Ls st) (hp : pc + 1 = pc' := by rfl) : Walk Z own nm rt B ml R h0 W Q ws Ts Li h cells slots pc Ls (.int x :: .int j :: .ref a :: st) := by
  intro p l e s m args below meth c T locs ho
  obtain ⟨vm0, k0, X, hx, eT, a2, a3, a4, a5, a6, a7, a8, a9, a10, hc, r⟩ := ho
  obtain ⟨cl, A, A1, A2, A3⟩ := id F
  subst hp hj
  obtain ⟨T', h', X', e', Wr', stp⟩ := RoadKit.stI X hx a4 eT A (x := x) (fun q => q.elim hj0 fun q => absurd hi (Nat.not_lt.mpr (A1 ▸ q))) (g := mkF m pc Ls (.int x :: .int j :: .ref a :: st)) rfl rfl (hb hc hd)
  obtain ⟨s₂, o, h1, r2⟩ := k h' (Kq.of_wr Wr') (F.wr Wr') Wr' p l e s m args below meth c T' _ ⟨vm0, k0, X', hx, e', a2, Nat.le_trans a3 (Nat.le_of_eq Wr'.size.symm), a4, a5, a6, Fr.snoc X' a7 hz, fun y hy => (List.mem_append.mp hy).elim (a8 y) fun q => by cases List.mem_singleton.mp q; exact hw, a9, a10, hc, r⟩
  exact ⟨s₂, o, stp _ h1, r2⟩
theorem Walk.lastore {a : Addr} {n i : Nat} {f : Nat → Value} {j : Int32} {x : Int64} (F : Av Z h a .long n f) (hd : decode B pc = .ok (.lastore, 1)) (hj0 : ¬ j < 0) (hj : j.toNatClampNeg = i) (hi : i < n) (hz : Z.heap.size ≤ a) (hw : ws ⟨a, i⟩)
    (k : ∀ h', Kq h h' (fun y => y = ⟨a, i⟩) → Av Z h' a .long n (fun k => if k = i then .long x else f k) → Wr h h' a i (.long x) → Walk Z own nm rt B ml R h0 W Q ws Ts Li h' cells slots pc' Ls st) (hp : pc + 1 = pc' := by rfl) : Walk Z own nm rt B ml R h0 W Q ws Ts Li h cells slots pc Ls (.long x :: .int j :: .ref a :: st) := by
  intro p l e s m args below meth c T locs ho
  obtain ⟨vm0, k0, X, hx, eT, a2, a3, a4, a5, a6, a7, a8, a9, a10, hc, r⟩ := ho
  obtain ⟨cl, A, A1, A2, A3⟩ := id F
  subst hp hj
  obtain ⟨T', h', X', e', Wr', stp⟩ := RoadKit.stJ X hx a4 eT A (x := x) (fun q => q.elim hj0 fun q => absurd hi (Nat.not_lt.mpr (A1 ▸ q))) (g := mkF m pc Ls (.long x :: .int j :: .ref a :: st)) rfl rfl (hb hc hd)
  obtain ⟨s₂, o, h1, r2⟩ := k h' (Kq.of_wr Wr') (F.wr Wr') Wr' p l e s m args below meth c T' _ ⟨vm0, k0, X', hx, e', a2, Nat.le_trans a3 (Nat.le_of_eq Wr'.size.symm), a4, a5, a6, Fr.snoc X' a7 hz, fun y hy => (List.mem_append.mp hy).elim (a8 y) fun q => by cases List.mem_singleton.mp q; exact hw, a9, a10, hc, r⟩
  exact ⟨s₂, o, stp _ h1, r2⟩
theorem Walk.castore {a : Addr} {n i : Nat} {f : Nat → Value} {j : Int32} {x : Int32} (F : Av Z h a .char n f) (hd : decode B pc = .ok (.castore, 1)) (hj0 : ¬ j < 0) (hj : j.toNatClampNeg = i) (hi : i < n) (hz : Z.heap.size ≤ a) (hw : ws ⟨a, i⟩)
    (k : ∀ h', Kq h h' (fun y => y = ⟨a, i⟩) → Av Z h' a .char n (fun k => if k = i then .int (nar .char x) else f k) → Wr h h' a i (.int (nar .char x)) → Walk Z own nm rt B ml R h0 W Q ws Ts Li h' cells slots pc' Ls st) (hp : pc + 1 = pc' := by rfl) : Walk Z own nm rt B ml R h0 W Q ws Ts Li h cells slots pc Ls (.int x :: .int j :: .ref a :: st) := by
  intro p l e s m args below meth c T locs ho
  obtain ⟨vm0, k0, X, hx, eT, a2, a3, a4, a5, a6, a7, a8, a9, a10, hc, r⟩ := ho
  obtain ⟨cl, A, A1, A2, A3⟩ := id F
  subst hp hj
  obtain ⟨T', h', X', e', Wr', stp⟩ := RoadKit.stC X hx a4 eT A (x := x) (fun q => q.elim hj0 fun q => absurd hi (Nat.not_lt.mpr (A1 ▸ q))) (g := mkF m pc Ls (.int x :: .int j :: .ref a :: st)) rfl rfl (hb hc hd)
  obtain ⟨s₂, o, h1, r2⟩ := k h' (Kq.of_wr Wr') (F.wr Wr') Wr' p l e s m args below meth c T' _ ⟨vm0, k0, X', hx, e', a2, Nat.le_trans a3 (Nat.le_of_eq Wr'.size.symm), a4, a5, a6, Fr.snoc X' a7 hz, fun y hy => (List.mem_append.mp hy).elim (a8 y) fun q => by cases List.mem_singleton.mp q; exact hw, a9, a10, hc, r⟩
  exact ⟨s₂, o, stp _ h1, r2⟩
theorem Walk.sastore {a : Addr} {n i : Nat} {f : Nat → Value} {j : Int32} {x : Int32} (F : Av Z h a .short n f) (hd : decode B pc = .ok (.sastore, 1)) (hj0 : ¬ j < 0) (hj : j.toNatClampNeg = i) (hi : i < n) (hz : Z.heap.size ≤ a) (hw : ws ⟨a, i⟩)
    (k : ∀ h', Kq h h' (fun y => y = ⟨a, i⟩) → Av Z h' a .short n (fun k => if k = i then .int (nar .short x) else f k) → Wr h h' a i (.int (nar .short x)) → Walk Z own nm rt B ml R h0 W Q ws Ts Li h' cells slots pc' Ls st) (hp : pc + 1 = pc' := by rfl) : Walk Z own nm rt B ml R h0 W Q ws Ts Li h cells slots pc Ls (.int x :: .int j :: .ref a :: st) := by
  intro p l e s m args below meth c T locs ho
  obtain ⟨vm0, k0, X, hx, eT, a2, a3, a4, a5, a6, a7, a8, a9, a10, hc, r⟩ := ho
  obtain ⟨cl, A, A1, A2, A3⟩ := id F
  subst hp hj
  obtain ⟨T', h', X', e', Wr', stp⟩ := RoadKit.stS X hx a4 eT A (x := x) (fun q => q.elim hj0 fun q => absurd hi (Nat.not_lt.mpr (A1 ▸ q))) (g := mkF m pc Ls (.int x :: .int j :: .ref a :: st)) rfl rfl (hb hc hd)
  obtain ⟨s₂, o, h1, r2⟩ := k h' (Kq.of_wr Wr') (F.wr Wr') Wr' p l e s m args below meth c T' _ ⟨vm0, k0, X', hx, e', a2, Nat.le_trans a3 (Nat.le_of_eq Wr'.size.symm), a4, a5, a6, Fr.snoc X' a7 hz, fun y hy => (List.mem_append.mp hy).elim (a8 y) fun q => by cases List.mem_singleton.mp q; exact hw, a9, a10, hc, r⟩
  exact ⟨s₂, o, stp _ h1, r2⟩
theorem Walk.bastore {a : Addr} {n i : Nat} {f : Nat → Value} {j : Int32} {x : Int32} (F : Av Z h a .byte n f) (hd : decode B pc = .ok (.bastore, 1)) (hj0 : ¬ j < 0) (hj : j.toNatClampNeg = i) (hi : i < n) (hz : Z.heap.size ≤ a) (hw : ws ⟨a, i⟩)
    (k : ∀ h', Kq h h' (fun y => y = ⟨a, i⟩) → Av Z h' a .byte n (fun k => if k = i then .int (nar .byte x) else f k) → Wr h h' a i (.int (nar .byte x)) → Walk Z own nm rt B ml R h0 W Q ws Ts Li h' cells slots pc' Ls st) (hp : pc + 1 = pc' := by rfl) : Walk Z own nm rt B ml R h0 W Q ws Ts Li h cells slots pc Ls (.int x :: .int j :: .ref a :: st) := by
  intro p l e s m args below meth c T locs ho
  obtain ⟨vm0, k0, X, hx, eT, a2, a3, a4, a5, a6, a7, a8, a9, a10, hc, r⟩ := ho
  obtain ⟨cl, A, A1, A2, A3⟩ := id F
  subst hp hj
  obtain ⟨T', h', X', e', Wr', stp⟩ := RoadKit.stB X hx a4 eT A (x := x) (fun q => q.elim hj0 fun q => absurd hi (Nat.not_lt.mpr (A1 ▸ q))) (g := mkF m pc Ls (.int x :: .int j :: .ref a :: st)) rfl rfl (hb hc hd)
  obtain ⟨s₂, o, h1, r2⟩ := k h' (Kq.of_wr Wr') (F.wr Wr') Wr' p l e s m args below meth c T' _ ⟨vm0, k0, X', hx, e', a2, Nat.le_trans a3 (Nat.le_of_eq Wr'.size.symm), a4, a5, a6, Fr.snoc X' a7 hz, fun y hy => (List.mem_append.mp hy).elim (a8 y) fun q => by cases List.mem_singleton.mp q; exact hw, a9, a10, hc, r⟩
  exact ⟨s₂, o, stp _ h1, r2⟩
theorem Walk.zastore {a : Addr} {n i : Nat} {f : Nat → Value} {j : Int32} {x : Int32} (F : Av Z h a .boolean n f) (hd : decode B pc = .ok (.bastore, 1)) (hj0 : ¬ j < 0) (hj : j.toNatClampNeg = i) (hi : i < n) (hz : Z.heap.size ≤ a) (hw : ws ⟨a, i⟩)
    (k : ∀ h', Kq h h' (fun y => y = ⟨a, i⟩) → Av Z h' a .boolean n (fun k => if k = i then .int (nar .boolean x) else f k) → Wr h h' a i (.int (nar .boolean x)) → Walk Z own nm rt B ml R h0 W Q ws Ts Li h' cells slots pc' Ls st) (hp : pc + 1 = pc' := by rfl) : Walk Z own nm rt B ml R h0 W Q ws Ts Li h cells slots pc Ls (.int x :: .int j :: .ref a :: st) := by
  intro p l e s m args below meth c T locs ho
  obtain ⟨vm0, k0, X, hx, eT, a2, a3, a4, a5, a6, a7, a8, a9, a10, hc, r⟩ := ho
  obtain ⟨cl, A, A1, A2, A3⟩ := id F
  subst hp hj
  obtain ⟨T', h', X', e', Wr', stp⟩ := RoadKit.stZ X hx a4 eT A (x := x) (fun q => q.elim hj0 fun q => absurd hi (Nat.not_lt.mpr (A1 ▸ q))) (g := mkF m pc Ls (.int x :: .int j :: .ref a :: st)) rfl rfl (hb hc hd)
  obtain ⟨s₂, o, h1, r2⟩ := k h' (Kq.of_wr Wr') (F.wr Wr') Wr' p l e s m args below meth c T' _ ⟨vm0, k0, X', hx, e', a2, Nat.le_trans a3 (Nat.le_of_eq Wr'.size.symm), a4, a5, a6, Fr.snoc X' a7 hz, fun y hy => (List.mem_append.mp hy).elim (a8 y) fun q => by cases List.mem_singleton.mp q; exact hw, a9, a10, hc, r⟩
  exact ⟨s₂, o, stp _ h1, r2⟩
/-! ### calls -/
/-- who pays a call -/
def Pay (Z : State) (y : MethodName) (R : Room) (len Wd : Nat) (as : List Value) (h : Heap) (Ts : TsT) (Li : LiT) (k n : Nat) (V : Loc → Prop) (P : QT) : Prop :=
  ∀ l p e below s args, Z.Warmed39 s.vm → LS Z s.vm Ts Li → Ext Z.heap h → BackS l R p e below s args y len Wd (fun A a => a = as.toArray ∧ A.U.heap = h ∧ A.cells + k ≤ R.cells ∧ A.slots + n ≤ R.slots)
    (fun A _ v B => ∃ L Ts' Li', P v B.U.heap Ts' Li' ∧ LS Z B.U.vm Ts' Li' ∧ Fr Z.heap.size L ∧ (∀ y ∈ L, Fw h V y) ∧ Kq h B.U.heap V ∧ B.locs = A.locs ++ L ∧ B.cells = A.cells + k ∧ B.slots = A.slots + n)
theorem Kq.of_end {s t : State} {o : Outcome} {L : List Loc} {k n : Nat} {V : Loc → Prop} (hE : ReturnedEndW s o t L k n) (q : ∀ y ∈ L, Fw s.heap V y) : Kq s.heap t.heap V := by
  obtain ⟨-, -, -, hs⟩ := hE
  refine ⟨hs.2.1, fun a cl hcl => ?_⟩
  obtain ⟨c', h1, h2, h3, h4⟩ := hs.2.2.2.2.2 a cl hcl
  have hlt := (Array.getElem?_eq_some_iff.mp hcl).1
  refine ⟨c', h1, by rw [h2], by rw [h2], h3, fun i hi => h4 i fun hm => ?_⟩
  rcases q _ hm with r | r
  · exact absurd r (Nat.not_le.mpr hlt)
  · exact hi r
theorem Con.pay {y : MethodName} {bytes : ByteArray} {maxL : Nat} {ret : Option FieldType} {rm : Room} {as : List Value} {V : Loc → Prop} {P : QT} {len Wd : Nat} (hM : Con Z y bytes maxL ret rm as h Ts Li V P) (wc : (Cond.code y bytes maxL ret).before a0 Z = true) (wz : (Cond.initialized y.cls).before a0 Z = true)
    (hf : rm.frames + 1 ≤ R.frames) (hl : Wd + (maxL + 11) + rm.locals ≤ R.locals) : Pay Z y R len Wd as h Ts Li rm.cells rm.slots V P := by
  intro l p e below s args hZ hL hE
  exact BackS.of_freeW (bytes := bytes) (maxL := maxL) (ret := ret) (E := fun _ first o t L k n => k = rm.cells ∧ n = rm.slots ∧ ∃ v Ts' Li', o = .returned v ∧ P v t.heap Ts' Li' ∧ LS Z t.vm Ts' Li' ∧ Fr Z.heap.size L ∧ (∀ y ∈ L, Fw h V y)) (hM l []) hf hl
    (fun m meth c A a Y hp => have hU : Z.Warmed39 A.U.vm := wtrans hZ Y.warmed
      ⟨by show (Cond.and _ .tt).before a A.U = true; rw [Cond.before_and, mv hU wc]; rfl, mv hU wc, mv hU wz, hp.2.2.1, hp.2.2.2⟩)
    (fun m meth c A a g mk Y hp => ⟨hp.1, wtrans hZ Y.warmed, hp.2.1, by rw [show (A.U.calling g mk a).heap = A.U.heap from rfl, hp.2.1]; exact hE, LS.warm (s := s) hL Y.warmed⟩) (fun _ _ _ _ _ _ _ _ _ => trivial)
    (fun _ _ _ _ ⟨v, L, Ts', Li', h1, h2, h3, h4, h5, h6⟩ => ⟨L, _, _, h6, rfl, rfl, v, Ts', Li', h1, h2, h3, h4, h5⟩)
    (fun m meth c A a g mk v t L k n Y hp hq hr ⟨e1, e2, v', Ts', Li', e3, e4, e5, e6, e7⟩ => by
      cases e3; subst e1 e2
      have e0 : (A.U.calling g mk a).heap = h := hp.2.1
      have e8 : Kq h t.heap V := e0 ▸ Kq.of_end hr (e0 ▸ e7)
      exact ⟨L, Ts', Li', e4, e5, e6, e7, e8, rfl, rfl, rfl⟩)
/-- a payer of the library's own (it interns nothing) -/
theorem Pay.of_back {y : MethodName} {len Wd : Nat} {as : List Value} {k n : Nat} {P : Option Value → Heap → List Loc → Prop} {V : Loc → Prop}
    (hB : ∀ l p e below s args, Z.Warmed39 s.vm → Back l R p e below s args y len Wd (fun A a => a = as.toArray ∧ A.U.heap = h ∧ A.cells + k ≤ R.cells ∧ A.slots + n ≤ R.slots) (fun A _ v B => ∃ L, P v B.U.heap L ∧ B.locs = A.locs ++ L ∧ B.cells = A.cells + k ∧ B.slots = A.slots + n))
    (hK : ∀ v h' L, P v h' L → Fr Z.heap.size L ∧ (∀ y ∈ L, Fw h V y) ∧ Kq h h' V) : Pay Z y R len Wd as h Ts Li k n V (fun v h' Ts' Li' => (∃ L, P v h' L) ∧ Ts' = Ts ∧ Li' = Li) := by
  intro l p e below s args hZ hL hE m meth c A g ig mk a X hg hsize hdg hW hn hp
  obtain ⟨v, B, X', ⟨L, hq, e1, e2, e3⟩, hst⟩ := hB l p e below s args hZ m meth c A g ig mk a X hg hsize hdg hW hn hp
  obtain ⟨k1, k2, k3⟩ := hK _ _ _ hq
  exact ⟨v, B, X'.retabled X'.warmed.wide, X'.warmed.since _, by rw [hp.2.1]; exact k3.1, ⟨L, Ts, Li, ⟨⟨L, hq⟩, rfl, rfl⟩, LS.warm (s := s) hL X'.warmed, k1, k2, k3, e1, e2, e3⟩, hst⟩
theorem Pay.mono {y : MethodName} {len Wd : Nat} {as : List Value} {k n : Nat} {P P' : QT} {V : Loc → Prop} (hP : Pay Z y R len Wd as h Ts Li k n V P) (hq : ∀ v h' Ts' Li', Kq h h' V → P v h' Ts' Li' → P' v h' Ts' Li') : Pay Z y R len Wd as h Ts Li k n V P' := by
  intro l p e below s args hZ hL hE m meth c A g ig mk a X hg hsize hdg hW hn hp
  obtain ⟨v, B, X', r1, r2, ⟨L, Ts', Li', q1, q2, q3, q4, q5, q6⟩, hst⟩ := hP l p e below s args hZ hL hE m meth c A g ig mk a X hg hsize hdg hW hn hp
  exact ⟨v, B, X', r1, r2, ⟨L, Ts', Li', hq _ _ _ _ q5 q1, q2, q3, q4, q5, q6⟩, hst⟩
/-- behind a call: the walk stands again -/
theorem On.after {p : Program} {l : Launch} {e : Env} {s : State} {m : MethodId} {args : Array Value} {below : List Frame} {meth : Method} {c : Code} {T : State} {locs : List Loc} {k n : Nat} {V : Loc → Prop} {vm0 : Vm} {k0 : Nat}
    (hx : p.tables.exec = Jvm.exec) (eT : T.heap = h) (a2 : s.Since vm0 k0) (a3 : k0 ≤ h.size) (a4 : Z.Warmed39 vm0) (a5 : vm0.findClass own = some m.cls) (a7 : Fr Z.heap.size locs) (a8 : ∀ y ∈ locs, ws y)
    (r : s.heap = h0 ∧ Ext Z.heap s.heap ∧ c.code = B ∧ c.maxLocals = ml ∧ meth.name = nm ∧ meth.sig.returnType = rt ∧ meth.locks = false) (hv : ∀ y, Fw h V y → ws y)
    {BU : State} {Bl : List Loc} {Bc Bs : Nat} (X' : Stand p l e R ((s.setVm vm0).setVm BU.vm) m args below meth c BU Bl Bc Bs) (hS : (s.setVm vm0).Since BU.vm BU.heap.size) (hg : T.heap.size ≤ BU.heap.size)
    {L : List Loc} {Ts' : TsT} {Li' : LiT} (q2 : LS Z BU.vm Ts' Li') (q3 : Fr Z.heap.size L) (q4 : ∀ y ∈ L, Fw h V y) (e1 : Bl = locs ++ L) (e2 : Bc = cells + k) (e3 : Bs = slots + n) :
    On Z own nm rt B ml R h0 ws p l e s m args below meth c Ts' Li' BU BU.heap (locs ++ L) (cells + k) (slots + n) := by
  subst e1 e2 e3
  exact ⟨BU.vm, BU.heap.size, X', hx, rfl, a2.trans hS (Nat.le_trans a3 (eT ▸ hg)), Nat.le_refl _, State.Warmed39.trans (t := s.setVm vm0) a4 hS.1, (hS.1.alike.findClass _ _).trans a5, q2, Fr.app a7 q3, fun y hy => (List.mem_append.mp hy).elim (a8 y) fun q => hv _ (q4 y q), r⟩
theorem Walk.callS {index : Nat} {y : MethodName} {bytes : ByteArray} {maxL : Nat} {ret : Option FieldType} {Wd : Nat} {as rest : List Value} {k n : Nat} {V : Loc → Prop} {P : QT}
    (wl : (Cond.methodLink own index y).before a0 Z = true) (ws1 : (Cond.static y).before a0 Z = true) (wi : (Cond.initialized y.cls).before a0 Z = true) (wc : (Cond.code y bytes maxL ret).before a0 Z = true) (hP : Pay Z y R 3 Wd as h Ts Li k n V P)
    (hlen : ∀ sig, parseMethodDescriptor y.desc = some sig → as.length = sig.parameters.length) (hd : decode B pc = .ok (.invokestatic index, 3)) (hst : st = as.reverse ++ rest) (hW : (rest.map fun v => v.category).sum ≤ Wd) (hsz : Ls.size = ml) (hc1 : cells + k ≤ R.cells) (hl1 : slots + n ≤ R.slots) (hv : h0.size ≤ h.size → ∀ y, Fw h V y → ws y)
    (kk : ∀ v h' Ts' Li', P v h' Ts' Li' → Kq h h' V → Walk Z own nm rt B ml R h0 W Q ws Ts' Li' h' (cells + k) (slots + n) pc' Ls (v.toList ++ rest)) (hy : y.cls ≠ "java/lang/invoke/MethodHandle" ∧ y.cls ≠ "java/lang/invoke/VarHandle" := by decide) (hp : pc + 3 = pc' := by rfl) :
    Walk Z own nm rt B ml R h0 W Q ws Ts Li h cells slots pc Ls st := by
  refine Walk.old fun E => ?_
  intro p l e s m args below meth c T locs ho
  obtain ⟨vm0, k0, X, hx, eT, a2, a3, a4, a5, a6, a7, a8, a9, a10, hc, b1, r⟩ := ho
  obtain ⟨v, vm₁, B', -, X', hS, hg, ⟨L, Ts', Li', q1, q2, q3, q4, q5, e1, e2, e3⟩, stp⟩ := RoadKit.callSS X hx (y := y) a5 (mvT a4 wl) (mvT a4 ws1) (mvT a4 wi) (mvT a4 wc) hy (hP l p e below _ args a4 a6 E) (g := mkF m pc Ls st) rfl (hsz.trans b1.symm) (argsL := as) (rest := rest) hlen hst (by show 2 * 0 + _ ≤ _; omega) (hb hc hd) (fun _ _ => ⟨rfl, eT, hc1, hl1⟩)
  subst hp
  obtain ⟨s₂, o, h1, r2⟩ := kk v _ Ts' Li' q1 q5 p l e s m args below meth c B'.U _ (On.after (k := k) (n := n) hx eT a2 a3 a4 a5 a7 a8 ⟨a9, a10, hc, b1, r⟩ (hv (by rw [← a9, ← eT]; exact X.same.2.1)) X' hS hg q2 q3 q4 e1 e2 e3)
  exact ⟨s₂, o, stp.trans h1, r2⟩
theorem Walk.callI {index : Nat} {y : MethodName} {bytes : ByteArray} {maxL : Nat} {Wd : Nat} {a : Addr} {as rest : List Value} {k n : Nat} {V : Loc → Prop} {P : QT}
    (wl : (Cond.methodLink own index y).before a0 Z = true) (ws1 : (Cond.instanceMethod y).before a0 Z = true) (wc : (Cond.code y bytes maxL none).before a0 Z = true) (hP : Pay Z y R 3 Wd (.ref a :: as) h Ts Li k n V P)
    (hlen : ∀ sig, parseMethodDescriptor y.desc = some sig → as.length = sig.parameters.length) (hd : decode B pc = .ok (.invokespecial index, 3)) (hst : st = as.reverse ++ .ref a :: rest) (hW : (rest.map fun v => v.category).sum ≤ Wd) (hsz : Ls.size = ml) (hc1 : cells + k ≤ R.cells) (hl1 : slots + n ≤ R.slots) (hv : h0.size ≤ h.size → ∀ y, Fw h V y → ws y)
    (kk : ∀ v h' Ts' Li', P v h' Ts' Li' → Kq h h' V → Walk Z own nm rt B ml R h0 W Q ws Ts' Li' h' (cells + k) (slots + n) pc' Ls (v.toList ++ rest)) (hy1 : y.name = "<init>" := by rfl) (hy : y.cls ≠ "java/lang/invoke/MethodHandle" ∧ y.cls ≠ "java/lang/invoke/VarHandle" := by decide) (hp : pc + 3 = pc' := by rfl) :
    Walk Z own nm rt B ml R h0 W Q ws Ts Li h cells slots pc Ls st := by
  refine Walk.old fun E => ?_
  intro p l e s m args below meth c T locs ho
  obtain ⟨vm0, k0, X, hx, eT, a2, a3, a4, a5, a6, a7, a8, a9, a10, hc, b1, r⟩ := ho
  obtain ⟨v, vm₁, B', -, X', hS, hg, ⟨L, Ts', Li', q1, q2, q3, q4, q5, e1, e2, e3⟩, stp⟩ := X.specialBackS hx (y := y) hy1 a5 (mvT a4 wl) (mvT a4 ws1) (mvT a4 wc) hy (hP l p e below _ args a4 a6 E) (g := mkF m pc Ls st) rfl (hsz.trans b1.symm) (Steps.refl _) (a := a) (argsL := as) (rest := rest) hlen hst (by show 2 * 0 + _ ≤ _; omega) (hb hc hd) (fun _ _ => ⟨rfl, eT, hc1, hl1⟩)
  subst hp
  obtain ⟨s₂, o, h1, r2⟩ := kk v _ Ts' Li' q1 q5 p l e s m args below meth c B'.U _ (On.after (k := k) (n := n) hx eT a2 a3 a4 a5 a7 a8 ⟨a9, a10, hc, b1, r⟩ (hv (by rw [← a9, ← eT]; exact X.same.2.1)) X' hS hg q2 q3 q4 e1 e2 e3)
  exact ⟨s₂, o, stp.trans h1, r2⟩
theorem Walk.callV {index : Nat} {C : String} {y z : MethodName} {Wd : Nat} {a : Addr} {as rest : List Value} {k n : Nat} {V : Loc → Prop} {P : QT}
    (wl : (Cond.methodLink own index y).before a0 Z = true) (wd : (Cond.declares y).before a0 Z = true) (wf : (Cond.selects y.cls y y).before a0 Z = true) (wsl : (Cond.selects C y z).before a0 Z = true) (wim : (Cond.instanceMethod z).before a0 Z = true) (Ex : Exa Z h a C) (hP : Pay Z z R 3 Wd (.ref a :: as) h Ts Li k n V P)
    (hlen : ∀ sig, parseMethodDescriptor y.desc = some sig → as.length = sig.parameters.length) (hd : decode B pc = .ok (.invokevirtual index, 3)) (hst : st = as.reverse ++ .ref a :: rest) (hW : (rest.map fun v => v.category).sum ≤ Wd) (hsz : Ls.size = ml) (hc1 : cells + k ≤ R.cells) (hl1 : slots + n ≤ R.slots) (hv : h0.size ≤ h.size → ∀ y, Fw h V y → ws y)
    (kk : ∀ v h' Ts' Li', P v h' Ts' Li' → Kq h h' V → Walk Z own nm rt B ml R h0 W Q ws Ts' Li' h' (cells + k) (slots + n) pc' Ls (v.toList ++ rest)) (hy : y.cls ≠ "java/lang/invoke/MethodHandle" ∧ y.cls ≠ "java/lang/invoke/VarHandle" := by decide) (hp : pc + 3 = pc' := by rfl) :
    Walk Z own nm rt B ml R h0 W Q ws Ts Li h cells slots pc Ls st := by
  refine Walk.old fun E => ?_
  intro p l e s m args below meth c T locs ho
  obtain ⟨vm0, k0, X, hx, eT, a2, a3, a4, a5, a6, a7, a8, a9, a10, hc, b1, r⟩ := ho
  obtain ⟨cB, kB, i1, i2, i3⟩ := isOf (s := s.setVm vm0) a4 eT Ex
  obtain ⟨v, vm₁, B', -, X', hS, hg, ⟨L, Ts', Li', q1, q2, q3, q4, q5, e1, e2, e3⟩, stp⟩ := X.virtualBackS hx (y := y) (z := z) a5 (mvT a4 wl) (mvT a4 wd) (notFace_of_selects (args := #[]) (mvT a4 wf)) (mvT a4 wsl) (mvT a4 wim) hy (hP l p e below _ args a4 a6 E) i1 i3 (g := mkF m pc Ls st) rfl (hsz.trans b1.symm) (Steps.refl _) (argsL := as) (rest := rest) hlen hst (by show 2 * 0 + _ ≤ _; omega) (hb hc hd) (fun _ _ => ⟨rfl, eT, hc1, hl1⟩)
  subst hp
  obtain ⟨s₂, o, h1, r2⟩ := kk v _ Ts' Li' q1 q5 p l e s m args below meth c B'.U _ (On.after (k := k) (n := n) hx eT a2 a3 a4 a5 a7 a8 ⟨a9, a10, hc, b1, r⟩ (hv (by rw [← a9, ← eT]; exact X.same.2.1)) X' hS hg q2 q3 q4 e1 e2 e3)
  exact ⟨s₂, o, stp.trans h1, r2⟩
/-- Object.<init> -/
theorem Walk.initO {index : Nat} {a : Addr} (w1 : (Cond.methodLink own index Lib.objectInit).before a0 Z = true) (w2 : (Cond.instanceMethod Lib.objectInit).before a0 Z = true) (w3 : (Cond.code Lib.objectInit ⟨#[0xb1]⟩ 1 none).before a0 Z = true)
    (hd : decode B pc = .ok (.invokespecial index, 3)) (hsz : Ls.size = ml) {Wd : Nat} (hW : (st.map fun v => v.category).sum ≤ Wd) (hfr : 1 ≤ R.frames) (hlo : Wd + 12 ≤ R.locals) (k : Walk Z own nm rt B ml R h0 W Q ws Ts Li h cells slots pc' Ls st) (hp : pc + 3 = pc' := by rfl) : Walk Z own nm rt B ml R h0 W Q ws Ts Li h cells slots pc Ls (.ref a :: st) := by
  intro p l e s m args below meth c T locs ho
  obtain ⟨vm0, k0, X, hx, eT, a2, a3, a4, a5, a6, a7, a8, a9, a10, hc, b1, r⟩ := ho
  obtain ⟨T', X', e', stp⟩ := RoadKit.initO X hx a4 a5 w1 w2 w3 eT (g := mkF m pc Ls (.ref a :: st)) rfl (hsz.trans b1.symm) rfl (hb hc hd) hfr (W := Wd) (by show 2 * 0 + _ ≤ _; omega) hlo
  subst hp
  obtain ⟨s₂, o, h1, r2⟩ := k p l e s m args below meth c T' locs ⟨vm0, k0, X', hx, e', a2, a3, a4, a5, a6, a7, a8, a9, a10, hc, b1, r⟩
  exact ⟨s₂, o, stp _ h1, r2⟩
/-! ### constants -/
theorem Walk.ldcI {index : Nat} {v : Int32} (w : (Cond.constant own index v).before a0 Z = true) (hd : decode B pc = .ok (.ldc index, 2)) (k : Walk Z own nm rt B ml R h0 W Q ws Ts Li h cells slots pc' Ls (.int v :: st)) (hp : pc + 2 = pc' := by rfl) : Walk Z own nm rt B ml R h0 W Q ws Ts Li h cells slots pc Ls st := by
  intro p l e s m args below meth c T locs ho
  obtain ⟨s₂, o, h1, r2⟩ := k p l e s m args below meth c T locs ho
  obtain ⟨vm0, k0, X, hx, eT, a2, a3, a4, a5, a6, a7, a8, a9, a10, hc, r⟩ := ho
  subst hp
  exact ⟨s₂, o, X.ldcI (g := mkF m pc Ls st) hx a5 (mvT a4 w) rfl (hb hc hd) h1, r2⟩
theorem Walk.ldcJ {index : Nat} {v : Int64} (w : (Cond.constantLong own index v).before a0 Z = true) (hd : decode B pc = .ok (.ldc2_w index, 3)) (k : Walk Z own nm rt B ml R h0 W Q ws Ts Li h cells slots pc' Ls (.long v :: st)) (hp : pc + 3 = pc' := by rfl) : Walk Z own nm rt B ml R h0 W Q ws Ts Li h cells slots pc Ls st := by
  intro p l e s m args below meth c T locs ho
  obtain ⟨s₂, o, h1, r2⟩ := k p l e s m args below meth c T locs ho
  obtain ⟨vm0, k0, X, hx, eT, a2, a3, a4, a5, a6, a7, a8, a9, a10, hc, r⟩ := ho
  subst hp
  exact ⟨s₂, o, X.ldc2J (g := mkF m pc Ls st) hx a5 (mvT a4 w) rfl (hb hc hd) h1, r2⟩
theorem Walk.lswHit {x : Int32} {dflt : Int} {prs : Array (Int × Int)} {len : Nat} {a off : Int} (hd : decode B pc = .ok (.lookupswitch dflt prs, len)) (hso : (prs.toList.zip (prs.toList.drop 1)).all (fun (a, next) => a.1 < next.1) = true) (hf : prs.find? (·.1 == x.toInt) = some (a, off))
    (k : Walk Z own nm rt B ml R h0 W Q ws Ts Li h cells slots pc' Ls st) (ho1 : 0 ≤ (pc : Int) + off := by decide) (hp : ((pc : Int) + off).toNat = pc' := by rfl) : Walk Z own nm rt B ml R h0 W Q ws Ts Li h cells slots pc Ls (.int x :: st) := by
  intro p l e s m args below meth c T locs ho
  obtain ⟨s₂, o, h1, r2⟩ := k p l e s m args below meth c T locs ho
  obtain ⟨vm0, k0, X, hx, eT, a2, a3, a4, a5, a6, a7, a8, a9, a10, hc, r⟩ := ho
  subst hp
  exact ⟨s₂, o, X.lookupswitchHit hx (g := mkF m pc Ls (.int x :: st)) rfl rfl (hb hc hd) hso hf ho1 _ h1, r2⟩
theorem Walk.lswMiss {x : Int32} {dflt : Int} {prs : Array (Int × Int)} {len : Nat} (hd : decode B pc = .ok (.lookupswitch dflt prs, len)) (hso : (prs.toList.zip (prs.toList.drop 1)).all (fun (a, next) => a.1 < next.1) = true) (hf : prs.find? (·.1 == x.toInt) = none)
    (k : Walk Z own nm rt B ml R h0 W Q ws Ts Li h cells slots pc' Ls st) (ho1 : 0 ≤ (pc : Int) + dflt := by decide) (hp : ((pc : Int) + dflt).toNat = pc' := by rfl) : Walk Z own nm rt B ml R h0 W Q ws Ts Li h cells slots pc Ls (.int x :: st) := by
  intro p l e s m args below meth c T locs ho
  obtain ⟨s₂, o, h1, r2⟩ := k p l e s m args below meth c T locs ho
  obtain ⟨vm0, k0, X, hx, eT, a2, a3, a4, a5, a6, a7, a8, a9, a10, hc, r⟩ := ho
  subst hp
  exact ⟨s₂, o, X.lookupswitchMiss hx (g := mkF m pc Ls (.int x :: st)) rfl rfl (hb hc hd) hso hf ho1 _ h1, r2⟩
theorem Walk.tswIn {x : Int32} {dflt low high off : Int} {offs : Array Int} {len : Nat} (hd : decode B pc = .ok (.tableswitch dflt low high offs, len)) (hin : ¬ (x.toInt < low ∨ x.toInt > high)) (hoff : offs[(x.toInt - low).toNat]? = some off)
    (k : Walk Z own nm rt B ml R h0 W Q ws Ts Li h cells slots pc' Ls st) (ho1 : 0 ≤ (pc : Int) + off := by decide) (hp : ((pc : Int) + off).toNat = pc' := by rfl) : Walk Z own nm rt B ml R h0 W Q ws Ts Li h cells slots pc Ls (.int x :: st) :=
  Walk.lift (fun _ _ _ _ _ _ _ h hx hc r => XS.tswIn h hx rfl (pc0 := pc) (pc' := pc') rfl (hb hc hd) rfl hin hoff ho1 hp r) k
/-- a String constant's load that nobody has made since the law's start: its text is known -/
theorem Walk.ldcNew {index : Nat} {text : String} {Tl : List String} (w : (Cond.stringLink own index text).before a0 Z = true) (wS : ∀ a ∈ Bundle.stringAtoms, a.before a0 Z = true) (hh : Jvm.Lit.constHeld Z own index) (hcw : Jvm.Lit.compactW.before a0 Z = true) (hTs : Ts = some Tl) (hnot : text ∉ Tl) (hfresh : ∀ y, ws y → h0.size ≤ y.base)
    {vs : List Value} {z : Int32} (ht : (∀ c ∈ text.toList, c.toNat < 256) ∧ text.toList.map (fun c => Value.int (Jvm.Lit.byteI c.toNat.toUInt16)) = vs) (hz : ¬ z < 0) (hl : z.toNatClampNeg = vs.length) (hd : decode B pc = .ok (.ldc index, 2)) {n : Nat} (hn : 4 * text.toList.length ≤ n) (hbig : n ≤ 536870912) (hc1 : cells + 2 ≤ R.cells) (hl1 : slots + (n + 4) ≤ R.slots)
    (k : ∀ h' a b kb, Kq h h' noW → Exa Z h' a "java/lang/String" → Fld Z h' a "java/lang/String" "coder" "B" (.int 0) → Fld Z h' a "java/lang/String" "value" "[B" (.ref b) → Arv Z h' b kb .byte z vs (.int 0) → Walk Z own nm rt B ml R h0 W Q ws (some (text :: Tl)) ((own, index, a) :: Li) h' (cells + 2) (slots + (n + 4)) pc' Ls (.ref a :: st)) (hp : pc + 2 = pc' := by rfl) :
    Walk Z own nm rt B ml R h0 W Q ws Ts Li h cells slots pc Ls st := by
  intro p l e s m args below meth c T locs ho
  obtain ⟨vm0, k0, X, hx, eT, a2, a3, a4, a5, a6, a7, a8, a9, a10, hc, r⟩ := ho
  subst hp hTs
  have X1 : Stand p l e R ((s.setVm vm0).setVm vm0) m args below meth c T locs cells slots := X
  obtain ⟨a, T', h', k1, b, kb, X', e', E', S', hk1, hZ', hown', f1, f2, f3, f4, -, -, I', L', stp⟩ := ldcSVL X1 hx a4 a5 w wS eT (k0 := 0) ((State.WarmedH.refl (s.setVm vm0)).since _) (Nat.zero_le _) (fun y hy => by show s.heap.size ≤ _; rw [a9]; exact hfresh _ (a8 y hy)) (fun b cl q => a10.2 b cl q) (a6.1 _ rfl) hnot hh hcw ht hz hl (g := mkF m pc Ls st) rfl (hb hc hd) hn hbig hc1 hl1
  obtain ⟨s₂, o, h1, r2⟩ := k h' a b kb (Kq.of_ext E') f1 f2 f3 f4 p l e s m args below meth c T' locs ⟨T'.vm, h'.size, X', hx, e', a2.trans ⟨S'.1, fun j q hj hq => ⟨(S'.2 j q hj hq).1, Nat.lt_of_lt_of_le (S'.2 j q hj hq).2 hk1⟩⟩ (Nat.le_trans a3 E'.1), Nat.le_refl _, hZ', hown', ⟨fun T hT => by cases hT; exact I', fun hT => (by cases hT), fun q hq => (List.mem_cons.mp hq).elim (fun u => by subst u; exact L') (fun u => State.resolvedAt?_warmed39 (s := s.setVm vm0) S'.1 (a6.2.2 q u))⟩, a7, a8, a9, a10, hc, r⟩
  exact ⟨s₂, o, stp _ h1, r2⟩
/-- .. of an entry that is known to be resolved -/
theorem Walk.ldcAgain {index : Nat} {text : String} {a : Addr} (w : (Cond.stringLink own index text).before a0 Z = true) (hLi : (own, index, a) ∈ Li) (hd : decode B pc = .ok (.ldc index, 2)) (k : Walk Z own nm rt B ml R h0 W Q ws Ts Li h cells slots pc' Ls (.ref a :: st)) (hp : pc + 2 = pc' := by rfl) : Walk Z own nm rt B ml R h0 W Q ws Ts Li h cells slots pc Ls st := by
  intro p l e s m args below meth c T locs ho
  obtain ⟨s₂, o, h1, r2⟩ := k p l e s m args below meth c T locs ho
  obtain ⟨vm0, k0, X, hx, eT, a2, a3, a4, a5, a6, a7, a8, a9, a10, hc, r⟩ := ho
  subst hp
  exact ⟨s₂, o, RoadKit.ldcAgain X hx a4 a5 w (a6.2.2 _ hLi) (g := mkF m pc Ls st) rfl (hb hc hd) _ h1, r2⟩
/-! ### ends -/
theorem ReturnedEndW.mono {s t : State} {o : Outcome} {L : List Loc} {k n k' n' : Nat} (hE : ReturnedEndW s o t L k n) (hk : k ≤ k') (hn : n ≤ n') : ReturnedEndW s o t L k' n' := ⟨hE.1, hE.2.1, hE.2.2.1, hE.2.2.2.mono hk hn⟩
theorem Walk.leave {v : Option Value} (hv : rt = none → v = none) (hq : ∀ y, ws y → Fw h0 W y) (hc1 : cells ≤ R.cells) (hl1 : slots ≤ R.slots) (q : Q v h Ts Li)
    (f : ∀ (p : Program) (l : Launch) (e : Env) (s : State) (m : MethodId) (args : Array Value) (below : List Frame) (meth : Method) (c : Code) (T : State) (locs : List Loc) (fs : List Frame), Stand p l e R s m args below meth c T locs cells slots → p.tables.exec = Jvm.exec → c.code = B → meth.sig.returnType = rt →
      (∀ (f : JFrame) (acts : List Action), f.method = m → f.locked = none → f.entered = [] → (doReturn e (T.setTop f) acts v).1 = T.setFrames fs) → Steps p.tables e below (T.setTop (mkF m pc Ls st)) (T.setFrames fs)) :
    Walk Z own nm rt B ml R h0 W Q ws Ts Li h cells slots pc Ls st := by
  intro p l e s m args below meth c T locs ho
  obtain ⟨vm0, k0, X, hx, eT, a2, a3, a4, a5, a6, a7, a8, a9, a10, hc, b1, b2, b3, b4⟩ := ho
  obtain ⟨fs, hr, hrun, hended, hE⟩ := X.leaveW a2 (eT ▸ a3) (v := v) (fun q => hv (b3.symm.trans q)) b4
  exact ⟨_, _, f p l e _ m args below meth c T locs fs X hx hc b3 hr, hrun, hended, v, locs, Ts, Li, rfl, eT ▸ q, LS.warm (s := s) a6 X.warmed, a7, fun y hy => hq _ (a8 y hy), ReturnedEndW.mono hE hc1 hl1⟩
theorem Walk.ret (hd : decode B pc = .ok (.return_, 1)) (hrt : rt = none) (q : Q none h Ts Li) (hq : ∀ y, ws y → Fw h0 W y) (hc1 : cells ≤ R.cells) (hl1 : slots ≤ R.slots) : Walk Z own nm rt B ml R h0 W Q ws Ts Li h cells slots pc Ls [] :=
  Walk.leave (fun _ => rfl) hq hc1 hl1 q fun _ _ _ _ _ _ _ _ _ _ _ _ X hx hc b hr => X.returnOut hx (b.trans hrt) (hb hc hd) hr
theorem Walk.lret {x : Int64} (hd : decode B pc = .ok (.lreturn, 1)) (hrt : rt = some .long) (q : Q (some (.long x)) h Ts Li) (hq : ∀ y, ws y → Fw h0 W y) (hc1 : cells ≤ R.cells) (hl1 : slots ≤ R.slots) : Walk Z own nm rt B ml R h0 W Q ws Ts Li h cells slots pc Ls [.long x] :=
  Walk.leave (fun z => by rw [hrt] at z; cases z) hq hc1 hl1 q fun _ _ _ _ _ _ _ _ _ _ _ _ X hx hc b hr => X.lreturnOut hx (b.trans hrt) (hb hc hd) hr
theorem Walk.nret {x : Int32} {t : FieldType} (hd : decode B pc = .ok (.ireturn, 1)) (hrt : rt = some t) (ht : t = .boolean ∨ t = .byte ∨ t = .char ∨ t = .short) (q : Q (some (.int (nar t x))) h Ts Li) (hq : ∀ y, ws y → Fw h0 W y) (hc1 : cells ≤ R.cells) (hl1 : slots ≤ R.slots) : Walk Z own nm rt B ml R h0 W Q ws Ts Li h cells slots pc Ls (.int x :: st) :=
  Walk.leave (fun z => by rw [hrt] at z; cases z) hq hc1 hl1 q fun _ _ _ _ _ _ _ _ _ _ _ _ X hx hc b hr => retN X hx (b.trans hrt) ht (hb hc hd) hr
theorem Walk.iret {x : Int32} (hd : decode B pc = .ok (.ireturn, 1)) (hrt : rt = some .int) (q : Q (some (.int x)) h Ts Li) (hq : ∀ y, ws y → Fw h0 W y) (hc1 : cells ≤ R.cells) (hl1 : slots ≤ R.slots) : Walk Z own nm rt B ml R h0 W Q ws Ts Li h cells slots pc Ls (.int x :: st) :=
  Walk.leave (fun z => by rw [hrt] at z; cases z) hq hc1 hl1 q fun _ _ _ _ _ _ _ _ _ _ _ _ X hx hc b hr => retI X hx (b.trans hrt) (hb hc hd) hr
theorem Walk.aret {v : Value} {t : FieldType} (hd : decode B pc = .ok (.areturn, 1)) (hrt : rt = some t) (ht : t.isReference = true) (hv : v.isRef = true) (q : Q (some v) h Ts Li) (hq : ∀ y, ws y → Fw h0 W y) (hc1 : cells ≤ R.cells) (hl1 : slots ≤ R.slots) : Walk Z own nm rt B ml R h0 W Q ws Ts Li h cells slots pc Ls (v :: st) :=
  Walk.leave (fun z => by rw [hrt] at z; cases z) hq hc1 hl1 q fun _ _ _ _ _ _ _ _ _ _ _ _ X hx hc b hr => retR X hx (b.trans hrt) (by cases v <;> first | (cases hv; done) | (cases t <;> first | rfl | (cases ht; done))) ht hv (hb hc hd) hr
theorem Av.arv {a : Addr} {ty : FieldType} {n : Nat} {f : Nat → Value} (F : Av Z h a ty n f) {z : Int32} (hz : ¬ z < 0) (hzn : z.toNatClampNeg = n) {vs : List Value} {d : Value} (hv : ∀ i, i < n → vs.getD i d = f i) (hf : ∀ i, i < n → fits ty (f i) = true) : ∃ k, Arv Z h a k ty z vs d := by
  obtain ⟨c, A, r1, r2, r3⟩ := F
  exact ⟨c.cls, c, A, rfl, by rw [r1, hzn], hz, fun i hi => by rw [hv i (r1 ▸ hi)]; exact r3 i (r1 ▸ hi), fun i hi => by rw [hv i (r1 ▸ hi)]; exact hf i (r1 ▸ hi)⟩
theorem refNar {v : Value} {t : FieldType} (hv : v.isRef = true) (ht : t.isReference = true) : narrow t v = v := by cases v <;> first | (cases hv; done) | (cases t <;> first | rfl | (cases ht; done))
theorem refFit {v : Value} {t : FieldType} (hv : v.isRef = true) (ht : t.isReference = true) : fits t v = true := by cases v <;> first | (cases hv; done) | (cases t <;> first | rfl | (cases ht; done))
theorem cat_i (x : Int32) : (Value.int x).category = 1 := rfl
theorem cat_j (x : Int64) : (Value.long x).category = 2 := rfl
theorem cat_r (x : Addr) : (Value.ref x).category = 1 := rfl
theorem cat_n : Value.null.category = 1 := rfl
theorem stV {L L' : Array Slot} {i : Nat} {v : Value} {o : Slot} (hold : L[i]? = some o) (ho : o = .unset ∨ ∃ w, o = .val w ∧ w.category = 1) (hv : v.category = 1) (e : L.setIfInBounds i (.val v) = L') : storeLocals L i v = some L' := e ▸ XS.store1 hold ho hv
end W
end Jvm.Wk
namespace Jvm.Wk
theorem n32_toInt {i : Nat} (h : i < 2147483648) : (Int32.ofNat i).toInt = i := Int32.toInt_ofNat_small h
theorem n32_lt {i n : Nat} (hi : i < 2147483648) (hn : n < 2147483648) : (Int32.ofNat i < Int32.ofNat n) ↔ i < n := by
  rw [Int32.lt_iff_toInt_lt, n32_toInt hi, n32_toInt hn]; omega
theorem n32_succ (i : Nat) : Int32.ofNat i + 1 = Int32.ofNat (i + 1) := by
  apply Int32.toBitVec_inj.mp
  show BitVec.ofNat 32 i + 1#32 = BitVec.ofNat 32 (i + 1)
  rw [BitVec.ofNat_add]
theorem n32_nn {i : Nat} (h : i < 2147483648) : ¬ Int32.ofNat i < 0 := by
  rw [Int32.lt_iff_toInt_lt, n32_toInt h]; show ¬ ((i : Int) < 0); omega
theorem n32_nat {i : Nat} (h : i < 2147483648) : (Int32.ofNat i).toNatClampNeg = i := by
  show (Int32.ofNat i).toInt.toNat = i
  rw [n32_toInt h]; rfl
theorem n32_inj {i j : Nat} (hi : i < 2147483648) (hj : j < 2147483648) (e : Int32.ofNat i = Int32.ofNat j) : i = j := by
  have := congrArg Int32.toInt e
  rw [n32_toInt hi, n32_toInt hj] at this; omega
theorem shr0 (x : Int32) : x >>> ((0 : Int32) &&& 31) = x := by
  apply Int32.toInt_inj.mp
  rw [Jvm.RoadKit.c_ishr x 0 0 rfl]; simp
end Jvm.Wk
namespace Jvm.Wk
open Jvm Jvm.ClassFile Sem Op Lib Jvm.Free Jvm.Stand Jvm.LawKit Jvm.RoadKit
section W
variable {Z : State} {own nm : String} {rt : Option FieldType} {B : ByteArray} {ml : Nat} {R : Room} {h0 : Heap} {W : Loc → Prop} {Q : QT} {ws : Loc → Prop} {Ts : TsT} {Li : LiT} {h : Heap} {cells slots pc pc' : Nat} {Ls Ls' : Array Slot} {st st' : List Value} {a0 : Array Value}
/-- a private method, called by invokevirtual; y': another method of its class, known to be no interface's -/
theorem Walk.callP {index : Nat} {C : String} {y y' : MethodName} {bytes : ByteArray} {maxL : Nat} {ret : Option FieldType} {Wd : Nat} {a : Addr} {as rest : List Value} {k n : Nat} {V : Loc → Prop} {P : QT}
    (wl : (Cond.methodLink own index y).before a0 Z = true) (wim : (Cond.instanceMethod y).before a0 Z = true) (wp : (Cond.privateMethod y).before a0 Z = true) (wc : (Cond.code y bytes maxL ret).before a0 Z = true) (wf : (Cond.selects y'.cls y' y').before a0 Z = true) (wim' : (Cond.instanceMethod y').before a0 Z = true) (hcl : y'.cls = y.cls) (Ex : Exa Z h a C) (hP : Pay Z y R 3 Wd (.ref a :: as) h Ts Li k n V P)
    (hlen : ∀ sig, parseMethodDescriptor y.desc = some sig → as.length = sig.parameters.length) (hd : decode B pc = .ok (.invokevirtual index, 3)) (hst : st = as.reverse ++ .ref a :: rest) (hW : (rest.map fun v => v.category).sum ≤ Wd) (hsz : Ls.size = ml) (hc1 : cells + k ≤ R.cells) (hl1 : slots + n ≤ R.slots) (hv : h0.size ≤ h.size → ∀ y, Fw h V y → ws y)
    (kk : ∀ v h' Ts' Li', P v h' Ts' Li' → Kq h h' V → Walk Z own nm rt B ml R h0 W Q ws Ts' Li' h' (cells + k) (slots + n) pc' Ls (v.toList ++ rest)) (hy : y.cls ≠ "java/lang/invoke/MethodHandle" ∧ y.cls ≠ "java/lang/invoke/VarHandle" := by decide) (hp : pc + 3 = pc' := by rfl) :
    Walk Z own nm rt B ml R h0 W Q ws Ts Li h cells slots pc Ls st := by
  refine Walk.old fun E => ?_
  intro p l e s m args below meth c T locs ho
  obtain ⟨vm0, k0, X, hx, eT, a2, a3, a4, a5, a6, a7, a8, a9, a10, hc, b1, r⟩ := ho
  obtain ⟨cell, hcell, hobj⟩ := Ex.cell
  obtain ⟨mk, methM, hnamed, hmethM, hstM, habM⟩ := Cond.instanceMethod_spec (mvT (args := args) (s := s.setVm vm0) a4 wim)
  obtain ⟨methM', cM, hmethM', -, -, -, -, -, -, hsigM⟩ := Cond.code_spec hnamed (mvT (args := args) (s := s.setVm vm0) a4 wc)
  cases hmethM.symm.trans hmethM'
  obtain ⟨mk', -, hnamed', -, -, -⟩ := Cond.instanceMethod_spec (mvT (args := args) (s := s.setVm vm0) a4 wim')
  obtain ⟨kP, hkP, hkPi⟩ := notFace_of_selects (args := #[]) (mvT (s := s.setVm vm0) a4 wf) mk' hnamed'
  have hcc : mk'.cls = mk.cls := Option.some.inj ((findClass_of_methodNamed hnamed').symm.trans (hcl ▸ findClass_of_methodNamed hnamed))
  rw [hcc] at hkP
  have hselP : selectMethod e.platform (s.setVm vm0).vm cell.cls mk = .method mk := selectMethod_private hmethM (Cond.privateMethod_at (mvP (args := args) (s := s.setVm vm0) a4 wp) mk methM hnamed hmethM)
  obtain ⟨vm₁, X₁, hstep₁⟩ := X.invokevirtual hx a5 (mvT a4 wl) hnamed hmethM hstM hkP hkPi hy (a := a) (cell := cell) (by rw [eT]; exact hcell) hobj hselP hmethM habM hkP hkPi (g := mkF m pc Ls st) rfl (argsL := as) (rest := rest) (hlen _ hsigM) hst (hb hc hd)
  obtain ⟨v, B', X', hS, hg, ⟨L, Ts', Li', q1, q2, q3, q4, q5, e1, e2, e3⟩, stp⟩ := hP l p e below _ args a4 a6 E m meth c ⟨T.setVm vm₁, locs, cells, slots⟩ (mkF m pc Ls rest) (.invokevirtual index) mk (.ref a :: as).toArray X₁ rfl (hsz.trans b1.symm) (hb hc hd) (by show 2 * 0 + (rest.map fun v => v.category).sum ≤ _; omega) (X₁.named hnamed) ⟨rfl, eT, hc1, hl1⟩
  subst hp
  obtain ⟨s₂, o, h1, r2⟩ := kk v _ Ts' Li' q1 q5 p l e s m args below meth c B'.U _ (On.after (T := T) (k := k) (n := n) hx eT a2 a3 a4 a5 a7 a8 ⟨a9, a10, hc, b1, r⟩ (hv (by rw [← a9, ← eT]; exact X.same.2.1)) X' hS hg q2 q3 q4 e1 e2 e3)
  exact ⟨s₂, o, (hstep₁ _ fun acts => by rw [doInvoke_state]; exact Steps.refl _).trans (stp.trans h1), r2⟩
/-- System.arraycopy into an array made since the frame's start -/
theorem Walk.cpy {index : Nat} {a b : Addr} {k k' : ClassId} {ty ty' : FieldType} {z z' sp dp nn : Int32} {vs vd us : List Value} {dv dd : Value}
    (w1 : (Cond.methodLink own index Jvm.Stand.acN).before a0 Z = true) (w2 : (Cond.native Jvm.Stand.acN).before a0 Z = true) (w3 : (Cond.static Jvm.Stand.acN).before a0 Z = true) (w4 : (Cond.initialized "java/lang/System").before a0 Z = true) (A : Arv Z h a k ty z vs dv) (B1 : Arv Z h b k' ty' z' vd dd) (hty : (ty = ty' ∧ refKind ty = false) ∨ (refKind ty = true ∧ refKind ty' = true ∧ StoL Z h b us))
    (i1 : ¬ sp < 0) (i2 : ¬ dp < 0) (i3 : ¬ nn < 0) (i4 : sp.toNatClampNeg + nn.toNatClampNeg ≤ z.toNatClampNeg) (i5 : dp.toNatClampNeg + nn.toNatClampNeg ≤ z'.toNatClampNeg) (hus : us = (List.range nn.toNatClampNeg).map fun i => vs.getD (sp.toNatClampNeg + i) dv) (hl : dp.toNatClampNeg + nn.toNatClampNeg ≤ vd.length)
    (hd : decode B pc = .ok (.invokestatic index, 3)) (hst : st = .int nn :: .int dp :: .ref b :: .int sp :: .ref a :: st') (hsz : Ls.size = ml) {Wd : Nat} (hW : (st'.map fun v => v.category).sum ≤ Wd) (hfr : 1 ≤ R.frames) (hlo : Wd + (nativeFrameWords "java/lang/System" "arraycopy" 5 + 11) ≤ R.locals) (gb : h0.size ≤ b) (q1 : ∀ y, ws y → h0.size ≤ y.base) (q2 : ∀ y : Loc, h0.size ≤ y.base → ws y)
    (kk : ∀ h', Kq h h' (fun y => y.base = b) → Arv Z h' b k' ty' z' (vd.take dp.toNatClampNeg ++ us ++ vd.drop (dp.toNatClampNeg + nn.toNatClampNeg)) dd → Walk Z own nm rt B ml R h0 W Q ws Ts Li h' cells slots pc' Ls st') (hp : pc + 3 = pc' := by rfl) : Walk Z own nm rt B ml R h0 W Q ws Ts Li h cells slots pc Ls st := by
  intro p l e s m args below meth c T locs ho
  obtain ⟨vm0, k0, X, hx, eT, a2, a3, a4, a5, a6, a7, a8, a9, a10, hc, b1, r⟩ := ho
  obtain ⟨T', h', L, X', e', N', K', B', stp⟩ := cpA X hx a4 a5 w1 w2 w3 w4 eT A B1 hty i1 i2 i3 i4 i5 hus hl (n0 := h0.size) (fun y hy => q1 y (a8 y hy)) gb (g := mkF m pc Ls st) rfl (hsz.trans b1.symm) hst (hb hc hd) hfr (W := Wd) (by show 2 * 0 + _ ≤ _; omega) hlo
  subst hp
  have Kk : Kq h h' (fun y => y.base = b) := ⟨K'.1, fun a c hc => by
    by_cases e : a = b
    · obtain ⟨c', r1, r2, r3, r4⟩ := K'.2.2 a c hc
      exact ⟨c', r1, r2, r3, r4, fun i hi => absurd e hi⟩
    · exact ⟨c, K'.2.1 a c hc (ninS e nin0), rfl, rfl, rfl, fun _ _ => rfl⟩⟩
  obtain ⟨s₂, o, h1, r2⟩ := kk h' Kk B' p l e s m args below meth c T' L ⟨vm0, k0, X', hx, e', a2, Nat.le_trans a3 Kk.1, a4, a5, a6, fun y hy => Nat.le_trans (by rw [← a9]; exact a10.1) (N' y hy), fun y hy => q2 y (N' y hy), a9, a10, hc, b1, r⟩
  exact ⟨s₂, o, stp _ h1, r2⟩
end W
end Jvm.Wk
namespace Jvm.Pilot.@@N@@
open Jvm Jvm.ClassFile Sem Op Lib Jvm.Free Jvm.Stand Jvm.LawKit Jvm.RoadKit Bundle Jvm.Pilot.@@N@@.Jvm.D Jvm.Wk
theorem wd0 {a0 : Array Value} {Z : State} (hw : ∀ d ∈ tables_1, d.before a0 Z = true) : (Jvm.Cond.classLink "com/example/outerview/outerview/ctf/TextsTakePinLaw" (7 : Nat) "com/example/outerview/outerview/ctf/Texts").before a0 Z = true := hw _ (List.mem_of_getElem? (i := 0) rfl)
theorem wd1 {a0 : Array Value} {Z : State} (hw : ∀ d ∈ tables_1, d.before a0 Z = true) : (Jvm.Cond.instantiable "com/example/outerview/outerview/ctf/Texts" (4 : Nat)).before a0 Z = true := hw _ (List.mem_of_getElem? (i := 1) rfl)
theorem wd2 {a0 : Array Value} {Z : State} (hw : ∀ d ∈ tables_1, d.before a0 Z = true) : (Jvm.Cond.initialized "com/example/outerview/outerview/ctf/Texts").before a0 Z = true := hw _ (List.mem_of_getElem? (i := 2) rfl)
theorem wd3 {a0 : Array Value} {Z : State} (hw : ∀ d ∈ tables_1, d.before a0 Z = true) : (Jvm.Cond.methodLink "com/example/outerview/outerview/ctf/TextsTakePinLaw" (9 : Nat) ({ cls := "com/example/outerview/outerview/ctf/Texts", name := "<init>", desc := "()V" } : Jvm.MethodName)).before a0 Z = true := hw _ (List.mem_of_getElem? (i := 3) rfl)
theorem wd4 {a0 : Array Value} {Z : State} (hw : ∀ d ∈ tables_1, d.before a0 Z = true) : (Jvm.Cond.instanceMethod ({ cls := "com/example/outerview/outerview/ctf/Texts", name := "<init>", desc := "()V" } : Jvm.MethodName)).before a0 Z = true := hw _ (List.mem_of_getElem? (i := 4) rfl)
theorem wd5 {a0 : Array Value} {Z : State} (hw : ∀ d ∈ tables_1, d.before a0 Z = true) : (Jvm.Cond.code ({ cls := "com/example/outerview/outerview/ctf/Texts", name := "<init>", desc := "()V" } : Jvm.MethodName) prog_146_method_1_code (1 : Nat) (Option.none : Option Jvm.ClassFile.FieldType)).before a0 Z = true := hw _ (List.mem_of_getElem? (i := 5) rfl)
theorem wd6 {a0 : Array Value} {Z : State} (hw : ∀ d ∈ tables_1, d.before a0 Z = true) : (Jvm.Cond.methodLink "com/example/outerview/outerview/ctf/Texts" (7 : Nat) ({ cls := "java/lang/Object", name := "<init>", desc := "()V" } : Jvm.MethodName)).before a0 Z = true := hw _ (List.mem_of_getElem? (i := 6) rfl)
theorem wd7 {a0 : Array Value} {Z : State} (hw : ∀ d ∈ tables_1, d.before a0 Z = true) : (Jvm.Cond.instanceMethod ({ cls := "java/lang/Object", name := "<init>", desc := "()V" } : Jvm.MethodName)).before a0 Z = true := hw _ (List.mem_of_getElem? (i := 7) rfl)
theorem wd8 {a0 : Array Value} {Z : State} (hw : ∀ d ∈ tables_1, d.before a0 Z = true) : (Jvm.Cond.code ({ cls := "java/lang/Object", name := "<init>", desc := "()V" } : Jvm.MethodName) object_method_1_code (1 : Nat) (Option.none : Option Jvm.ClassFile.FieldType)).before a0 Z = true := hw _ (List.mem_of_getElem? (i := 8) rfl)
theorem wd9 {a0 : Array Value} {Z : State} (hw : ∀ d ∈ tables_1, d.before a0 Z = true) : (Jvm.Cond.fieldLink "com/example/outerview/outerview/ctf/Texts" (13 : Nat) "com/example/outerview/outerview/ctf/Texts" "NO_INTS" "[I").before a0 Z = true := hw _ (List.mem_of_getElem? (i := 9) rfl)
theorem wd10 {a0 : Array Value} {Z : State} (hw : ∀ d ∈ tables_1, d.before a0 Z = true) : (Jvm.Cond.laysStatic "com/example/outerview/outerview/ctf/Texts" "NO_INTS" "[I").before a0 Z = true := hw _ (List.mem_of_getElem? (i := 10) rfl)
theorem wd11 {a0 : Array Value} {Z : State} (hw : ∀ d ∈ tables_1, d.before a0 Z = true) : (Jvm.Cond.fieldLink "com/example/outerview/outerview/ctf/Texts" (17 : Nat) "com/example/outerview/outerview/ctf/Texts" "slots" "[I").before a0 Z = true := hw _ (List.mem_of_getElem? (i := 11) rfl)
theorem wd12 {a0 : Array Value} {Z : State} (hw : ∀ d ∈ tables_1, d.before a0 Z = true) : (Jvm.Cond.lays "com/example/outerview/outerview/ctf/Texts" "com/example/outerview/outerview/ctf/Texts" "slots" "[I").before a0 Z = true := hw _ (List.mem_of_getElem? (i := 12) rfl)
theorem wd13 {a0 : Array Value} {Z : State} (hw : ∀ d ∈ tables_1, d.before a0 Z = true) : (Jvm.Cond.fieldLink "com/example/outerview/outerview/ctf/Texts" (20 : Nat) "com/example/outerview/outerview/ctf/Texts" "NO_LONGS" "[J").before a0 Z = true := hw _ (List.mem_of_getElem? (i := 13) rfl)
theorem wd14 {a0 : Array Value} {Z : State} (hw : ∀ d ∈ tables_1, d.before a0 Z = true) : (Jvm.Cond.laysStatic "com/example/outerview/outerview/ctf/Texts" "NO_LONGS" "[J").before a0 Z = true := hw _ (List.mem_of_getElem? (i := 14) rfl)
theorem wd15 {a0 : Array Value} {Z : State} (hw : ∀ d ∈ tables_1, d.before a0 Z = true) : (Jvm.Cond.fieldLink "com/example/outerview/outerview/ctf/Texts" (24 : Nat) "com/example/outerview/outerview/ctf/Texts" "starts" "[J").before a0 Z = true := hw _ (List.mem_of_getElem? (i := 15) rfl)
theorem wd16 {a0 : Array Value} {Z : State} (hw : ∀ d ∈ tables_1, d.before a0 Z = true) : (Jvm.Cond.lays "com/example/outerview/outerview/ctf/Texts" "com/example/outerview/outerview/ctf/Texts" "starts" "[J").before a0 Z = true := hw _ (List.mem_of_getElem? (i := 16) rfl)
theorem wd17 {a0 : Array Value} {Z : State} (hw : ∀ d ∈ tables_1, d.before a0 Z = true) : (Jvm.Cond.fieldLink "com/example/outerview/outerview/ctf/Texts" (27 : Nat) "com/example/outerview/outerview/ctf/Texts" "lengths" "[I").before a0 Z = true := hw _ (List.mem_of_getElem? (i := 17) rfl)
theorem wd18 {a0 : Array Value} {Z : State} (hw : ∀ d ∈ tables_1, d.before a0 Z = true) : (Jvm.Cond.lays "com/example/outerview/outerview/ctf/Texts" "com/example/outerview/outerview/ctf/Texts" "lengths" "[I").before a0 Z = true := hw _ (List.mem_of_getElem? (i := 18) rfl)
theorem wd19 {a0 : Array Value} {Z : State} (hw : ∀ d ∈ tables_1, d.before a0 Z = true) : (Jvm.Cond.arrayClass Jvm.ClassFile.FieldType.byte).before a0 Z = true := hw _ (List.mem_of_getElem? (i := 19) rfl)
theorem wd20 {a0 : Array Value} {Z : State} (hw : ∀ d ∈ tables_1, d.before a0 Z = true) : (Jvm.Cond.methodLink "com/example/outerview/outerview/ctf/TextsTakePinLaw" (10 : Nat) ({ cls := "com/example/outerview/outerview/ctf/Texts", name := "set", desc := "(IJJ)V" } : Jvm.MethodName)).before a0 Z = true := hw _ (List.mem_of_getElem? (i := 20) rfl)
theorem wd21 {a0 : Array Value} {Z : State} (hw : ∀ d ∈ tables_1, d.before a0 Z = true) : (Jvm.Cond.declares ({ cls := "com/example/outerview/outerview/ctf/Texts", name := "set", desc := "(IJJ)V" } : Jvm.MethodName)).before a0 Z = true := hw _ (List.mem_of_getElem? (i := 21) rfl)
theorem wd22 {a0 : Array Value} {Z : State} (hw : ∀ d ∈ tables_1, d.before a0 Z = true) : (Jvm.Cond.instanceMethod ({ cls := "com/example/outerview/outerview/ctf/Texts", name := "set", desc := "(IJJ)V" } : Jvm.MethodName)).before a0 Z = true := hw _ (List.mem_of_getElem? (i := 22) rfl)
theorem wd23 {a0 : Array Value} {Z : State} (hw : ∀ d ∈ tables_1, d.before a0 Z = true) : (Jvm.Cond.selects "com/example/outerview/outerview/ctf/Texts" ({ cls := "com/example/outerview/outerview/ctf/Texts", name := "set", desc := "(IJJ)V" } : Jvm.MethodName) ({ cls := "com/example/outerview/outerview/ctf/Texts", name := "set", desc := "(IJJ)V" } : Jvm.MethodName)).before a0 Z = true := hw _ (List.mem_of_getElem? (i := 23) rfl)
theorem wd24 {a0 : Array Value} {Z : State} (hw : ∀ d ∈ tables_1, d.before a0 Z = true) : (Jvm.Cond.code ({ cls := "com/example/outerview/outerview/ctf/Texts", name := "set", desc := "(IJJ)V" } : Jvm.MethodName) prog_146_method_6_code (6 : Nat) (Option.none : Option Jvm.ClassFile.FieldType)).before a0 Z = true := hw _ (List.mem_of_getElem? (i := 24) rfl)
theorem wd25 {a0 : Array Value} {Z : State} (hw : ∀ d ∈ tables_1, d.before a0 Z = true) : (Jvm.Cond.fieldLink "com/example/outerview/outerview/ctf/Texts" (30 : Nat) "com/example/outerview/outerview/ctf/Texts" "held" "I").before a0 Z = true := hw _ (List.mem_of_getElem? (i := 25) rfl)
theorem wd26 {a0 : Array Value} {Z : State} (hw : ∀ d ∈ tables_1, d.before a0 Z = true) : (Jvm.Cond.lays "com/example/outerview/outerview/ctf/Texts" "com/example/outerview/outerview/ctf/Texts" "held" "I").before a0 Z = true := hw _ (List.mem_of_getElem? (i := 26) rfl)
theorem wd27 {a0 : Array Value} {Z : State} (hw : ∀ d ∈ tables_1, d.before a0 Z = true) : (Jvm.Cond.methodLink "com/example/outerview/outerview/ctf/Texts" (34 : Nat) ({ cls := "java/lang/Math", name := "max", desc := "(II)I" } : Jvm.MethodName)).before a0 Z = true := hw _ (List.mem_of_getElem? (i := 27) rfl)
theorem wd28 {a0 : Array Value} {Z : State} (hw : ∀ d ∈ tables_1, d.before a0 Z = true) : (Jvm.Cond.static ({ cls := "java/lang/Math", name := "max", desc := "(II)I" } : Jvm.MethodName)).before a0 Z = true := hw _ (List.mem_of_getElem? (i := 28) rfl)
theorem wd29 {a0 : Array Value} {Z : State} (hw : ∀ d ∈ tables_1, d.before a0 Z = true) : (Jvm.Cond.initialized "java/lang/Math").before a0 Z = true := hw _ (List.mem_of_getElem? (i := 29) rfl)
theorem wd30 {a0 : Array Value} {Z : State} (hw : ∀ d ∈ tables_1, d.before a0 Z = true) : (Jvm.Cond.code ({ cls := "java/lang/Math", name := "max", desc := "(II)I" } : Jvm.MethodName) jdk_29_method_65_code (2 : Nat) (Option.some Jvm.ClassFile.FieldType.int)).before a0 Z = true := hw _ (List.mem_of_getElem? (i := 30) rfl)
theorem wd31 {a0 : Array Value} {Z : State} (hw : ∀ d ∈ tables_1, d.before a0 Z = true) : (Jvm.Cond.methodLink "com/example/outerview/outerview/ctf/Texts" (40 : Nat) ({ cls := "com/example/outerview/outerview/ctf/Texts", name := "resize", desc := "(I)V" } : Jvm.MethodName)).before a0 Z = true := hw _ (List.mem_of_getElem? (i := 31) rfl)
theorem wd32 {a0 : Array Value} {Z : State} (hw : ∀ d ∈ tables_1, d.before a0 Z = true) : (Jvm.Cond.instanceMethod ({ cls := "com/example/outerview/outerview/ctf/Texts", name := "resize", desc := "(I)V" } : Jvm.MethodName)).before a0 Z = true := hw _ (List.mem_of_getElem? (i := 32) rfl)
theorem wd33 {a0 : Array Value} {Z : State} (hw : ∀ d ∈ tables_1, d.before a0 Z = true) : (Jvm.Cond.privateMethod ({ cls := "com/example/outerview/outerview/ctf/Texts", name := "resize", desc := "(I)V" } : Jvm.MethodName)).before a0 Z = true := hw _ (List.mem_of_getElem? (i := 33) rfl)
theorem wd34 {a0 : Array Value} {Z : State} (hw : ∀ d ∈ tables_1, d.before a0 Z = true) : (Jvm.Cond.code ({ cls := "com/example/outerview/outerview/ctf/Texts", name := "resize", desc := "(I)V" } : Jvm.MethodName) prog_146_method_7_code (2 : Nat) (Option.none : Option Jvm.ClassFile.FieldType)).before a0 Z = true := hw _ (List.mem_of_getElem? (i := 34) rfl)
theorem wd35 {a0 : Array Value} {Z : State} (hw : ∀ d ∈ tables_1, d.before a0 Z = true) : (Jvm.Cond.methodLink "com/example/outerview/outerview/ctf/Texts" (54 : Nat) ({ cls := "java/util/Arrays", name := "copyOf", desc := "([II)[I" } : Jvm.MethodName)).before a0 Z = true := hw _ (List.mem_of_getElem? (i := 35) rfl)
theorem wd36 {a0 : Array Value} {Z : State} (hw : ∀ d ∈ tables_1, d.before a0 Z = true) : (Jvm.Cond.static ({ cls := "java/util/Arrays", name := "copyOf", desc := "([II)[I" } : Jvm.MethodName)).before a0 Z = true := hw _ (List.mem_of_getElem? (i := 36) rfl)
theorem wd37 {a0 : Array Value} {Z : State} (hw : ∀ d ∈ tables_1, d.before a0 Z = true) : (Jvm.Cond.initialized "java/util/Arrays").before a0 Z = true := hw _ (List.mem_of_getElem? (i := 37) rfl)
theorem wd38 {a0 : Array Value} {Z : State} (hw : ∀ d ∈ tables_1, d.before a0 Z = true) : (Jvm.Cond.code ({ cls := "java/util/Arrays", name := "copyOf", desc := "([II)[I" } : Jvm.MethodName) jdk_65_method_123_code (3 : Nat) (Option.some (Jvm.ClassFile.FieldType.array Jvm.ClassFile.FieldType.int))).before a0 Z = true := hw _ (List.mem_of_getElem? (i := 38) rfl)
theorem wd39 {a0 : Array Value} {Z : State} (hw : ∀ d ∈ tables_1, d.before a0 Z = true) : (Jvm.Cond.arrayClass Jvm.ClassFile.FieldType.int).before a0 Z = true := hw _ (List.mem_of_getElem? (i := 39) rfl)
theorem wd40 {a0 : Array Value} {Z : State} (hw : ∀ d ∈ tables_1, d.before a0 Z = true) : (Jvm.Cond.methodLink "java/util/Arrays" (304 : Nat) ({ cls := "java/lang/Math", name := "min", desc := "(II)I" } : Jvm.MethodName)).before a0 Z = true := hw _ (List.mem_of_getElem? (i := 40) rfl)
theorem wd41 {a0 : Array Value} {Z : State} (hw : ∀ d ∈ tables_1, d.before a0 Z = true) : (Jvm.Cond.static ({ cls := "java/lang/Math", name := "min", desc := "(II)I" } : Jvm.MethodName)).before a0 Z = true := hw _ (List.mem_of_getElem? (i := 41) rfl)
theorem wd42 {a0 : Array Value} {Z : State} (hw : ∀ d ∈ tables_1, d.before a0 Z = true) : (Jvm.Cond.code ({ cls := "java/lang/Math", name := "min", desc := "(II)I" } : Jvm.MethodName) jdk_29_method_69_code (2 : Nat) (Option.some Jvm.ClassFile.FieldType.int)).before a0 Z = true := hw _ (List.mem_of_getElem? (i := 42) rfl)
theorem wd43 {a0 : Array Value} {Z : State} (hw : ∀ d ∈ tables_1, d.before a0 Z = true) : (Jvm.Cond.methodLink "java/util/Arrays" (150 : Nat) ({ cls := "java/lang/System", name := "arraycopy", desc := "(Ljava/lang/Object;ILjava/lang/Object;II)V" } : Jvm.MethodName)).before a0 Z = true := hw _ (List.mem_of_getElem? (i := 43) rfl)
theorem wd44 {a0 : Array Value} {Z : State} (hw : ∀ d ∈ tables_1, d.before a0 Z = true) : (Jvm.Cond.static ({ cls := "java/lang/System", name := "arraycopy", desc := "(Ljava/lang/Object;ILjava/lang/Object;II)V" } : Jvm.MethodName)).before a0 Z = true := hw _ (List.mem_of_getElem? (i := 44) rfl)
theorem wd45 {a0 : Array Value} {Z : State} (hw : ∀ d ∈ tables_1, d.before a0 Z = true) : (Jvm.Cond.initialized "java/lang/System").before a0 Z = true := hw _ (List.mem_of_getElem? (i := 45) rfl)
theorem wd46 {a0 : Array Value} {Z : State} (hw : ∀ d ∈ tables_1, d.before a0 Z = true) : (Jvm.Cond.native ({ cls := "java/lang/System", name := "arraycopy", desc := "(Ljava/lang/Object;ILjava/lang/Object;II)V" } : Jvm.MethodName)).before a0 Z = true := hw _ (List.mem_of_getElem? (i := 46) rfl)
theorem wd47 {a0 : Array Value} {Z : State} (hw : ∀ d ∈ tables_1, d.before a0 Z = true) : (Jvm.Cond.methodLink "com/example/outerview/outerview/ctf/Texts" (60 : Nat) ({ cls := "java/util/Arrays", name := "copyOf", desc := "([JI)[J" } : Jvm.MethodName)).before a0 Z = true := hw _ (List.mem_of_getElem? (i := 47) rfl)
theorem wd48 {a0 : Array Value} {Z : State} (hw : ∀ d ∈ tables_1, d.before a0 Z = true) : (Jvm.Cond.static ({ cls := "java/util/Arrays", name := "copyOf", desc := "([JI)[J" } : Jvm.MethodName)).before a0 Z = true := hw _ (List.mem_of_getElem? (i := 48) rfl)
theorem wd49 {a0 : Array Value} {Z : State} (hw : ∀ d ∈ tables_1, d.before a0 Z = true) : (Jvm.Cond.code ({ cls := "java/util/Arrays", name := "copyOf", desc := "([JI)[J" } : Jvm.MethodName) jdk_65_method_124_code (3 : Nat) (Option.some (Jvm.ClassFile.FieldType.array Jvm.ClassFile.FieldType.long))).before a0 Z = true := hw _ (List.mem_of_getElem? (i := 49) rfl)
theorem wd50 {a0 : Array Value} {Z : State} (hw : ∀ d ∈ tables_1, d.before a0 Z = true) : (Jvm.Cond.arrayClass Jvm.ClassFile.FieldType.long).before a0 Z = true := hw _ (List.mem_of_getElem? (i := 50) rfl)
theorem wd51 {a0 : Array Value} {Z : State} (hw : ∀ d ∈ tables_1, d.before a0 Z = true) : (Jvm.Cond.constantLong "com/example/outerview/outerview/ctf/Texts" (48 : Nat) (1048576 : Int64)).before a0 Z = true := hw _ (List.mem_of_getElem? (i := 51) rfl)
theorem wd52 {a0 : Array Value} {Z : State} (hw : ∀ d ∈ tables_1, d.before a0 Z = true) : (Jvm.Cond.methodLink "com/example/outerview/outerview/ctf/Texts" (50 : Nat) ({ cls := "java/lang/Math", name := "min", desc := "(JJ)J" } : Jvm.MethodName)).before a0 Z = true := hw _ (List.mem_of_getElem? (i := 52) rfl)
theorem wd53 {a0 : Array Value} {Z : State} (hw : ∀ d ∈ tables_1, d.before a0 Z = true) : (Jvm.Cond.static ({ cls := "java/lang/Math", name := "min", desc := "(JJ)J" } : Jvm.MethodName)).before a0 Z = true := hw _ (List.mem_of_getElem? (i := 53) rfl)
theorem wd54 {a0 : Array Value} {Z : State} (hw : ∀ d ∈ tables_1, d.before a0 Z = true) : (Jvm.Cond.code ({ cls := "java/lang/Math", name := "min", desc := "(JJ)J" } : Jvm.MethodName) jdk_29_method_70_code (4 : Nat) (Option.some Jvm.ClassFile.FieldType.long)).before a0 Z = true := hw _ (List.mem_of_getElem? (i := 54) rfl)
theorem wd55 {a0 : Array Value} {Z : State} (hw : ∀ d ∈ tables_1, d.before a0 Z = true) : (Jvm.Cond.methodLink "com/example/outerview/outerview/ctf/TextsTakePinLaw" (14 : Nat) ({ cls := "com/example/outerview/outerview/ctf/Texts", name := "footprint", desc := "()J" } : Jvm.MethodName)).before a0 Z = true := hw _ (List.mem_of_getElem? (i := 55) rfl)
theorem wd56 {a0 : Array Value} {Z : State} (hw : ∀ d ∈ tables_1, d.before a0 Z = true) : (Jvm.Cond.declares ({ cls := "com/example/outerview/outerview/ctf/Texts", name := "footprint", desc := "()J" } : Jvm.MethodName)).before a0 Z = true := hw _ (List.mem_of_getElem? (i := 56) rfl)
theorem wd57 {a0 : Array Value} {Z : State} (hw : ∀ d ∈ tables_1, d.before a0 Z = true) : (Jvm.Cond.instanceMethod ({ cls := "com/example/outerview/outerview/ctf/Texts", name := "footprint", desc := "()J" } : Jvm.MethodName)).before a0 Z = true := hw _ (List.mem_of_getElem? (i := 57) rfl)
theorem wd58 {a0 : Array Value} {Z : State} (hw : ∀ d ∈ tables_1, d.before a0 Z = true) : (Jvm.Cond.selects "com/example/outerview/outerview/ctf/Texts" ({ cls := "com/example/outerview/outerview/ctf/Texts", name := "footprint", desc := "()J" } : Jvm.MethodName) ({ cls := "com/example/outerview/outerview/ctf/Texts", name := "footprint", desc := "()J" } : Jvm.MethodName)).before a0 Z = true := hw _ (List.mem_of_getElem? (i := 58) rfl)
theorem wd59 {a0 : Array Value} {Z : State} (hw : ∀ d ∈ tables_1, d.before a0 Z = true) : (Jvm.Cond.code ({ cls := "com/example/outerview/outerview/ctf/Texts", name := "footprint", desc := "()J" } : Jvm.MethodName) prog_146_method_5_code (1 : Nat) (Option.some Jvm.ClassFile.FieldType.long)).before a0 Z = true := hw _ (List.mem_of_getElem? (i := 59) rfl)
theorem wd60 {a0 : Array Value} {Z : State} (hw : ∀ d ∈ tables_1, d.before a0 Z = true) : (Jvm.Cond.constantLong "com/example/outerview/outerview/ctf/Texts" (44 : Nat) (16 : Int64)).before a0 Z = true := hw _ (List.mem_of_getElem? (i := 60) rfl)
theorem wd61 {a0 : Array Value} {Z : State} (hw : ∀ d ∈ tables_1, d.before a0 Z = true) : (Jvm.Cond.methodLink "com/example/outerview/outerview/ctf/TextsTakePinLaw" (18 : Nat) ({ cls := "com/example/outerview/outerview/ctf/Texts", name := "take", desc := "(Lcom/example/outerview/outerview/ctf/Texts;)V" } : Jvm.MethodName)).before a0 Z = true := hw _ (List.mem_of_getElem? (i := 61) rfl)
theorem wd62 {a0 : Array Value} {Z : State} (hw : ∀ d ∈ tables_1, d.before a0 Z = true) : (Jvm.Cond.declares ({ cls := "com/example/outerview/outerview/ctf/Texts", name := "take", desc := "(Lcom/example/outerview/outerview/ctf/Texts;)V" } : Jvm.MethodName)).before a0 Z = true := hw _ (List.mem_of_getElem? (i := 62) rfl)
theorem wd63 {a0 : Array Value} {Z : State} (hw : ∀ d ∈ tables_1, d.before a0 Z = true) : (Jvm.Cond.instanceMethod ({ cls := "com/example/outerview/outerview/ctf/Texts", name := "take", desc := "(Lcom/example/outerview/outerview/ctf/Texts;)V" } : Jvm.MethodName)).before a0 Z = true := hw _ (List.mem_of_getElem? (i := 63) rfl)
theorem wd64 {a0 : Array Value} {Z : State} (hw : ∀ d ∈ tables_1, d.before a0 Z = true) : (Jvm.Cond.selects "com/example/outerview/outerview/ctf/Texts" ({ cls := "com/example/outerview/outerview/ctf/Texts", name := "take", desc := "(Lcom/example/outerview/outerview/ctf/Texts;)V" } : Jvm.MethodName) ({ cls := "com/example/outerview/outerview/ctf/Texts", name := "take", desc := "(Lcom/example/outerview/outerview/ctf/Texts;)V" } : Jvm.MethodName)).before a0 Z = true := hw _ (List.mem_of_getElem? (i := 64) rfl)
theorem wd65 {a0 : Array Value} {Z : State} (hw : ∀ d ∈ tables_1, d.before a0 Z = true) : (Jvm.Cond.code ({ cls := "com/example/outerview/outerview/ctf/Texts", name := "take", desc := "(Lcom/example/outerview/outerview/ctf/Texts;)V" } : Jvm.MethodName) prog_146_method_4_code (2 : Nat) (Option.none : Option Jvm.ClassFile.FieldType)).before a0 Z = true := hw _ (List.mem_of_getElem? (i := 65) rfl)
theorem wd66 {a0 : Array Value} {Z : State} (hw : ∀ d ∈ tables_1, d.before a0 Z = true) : (Jvm.Cond.methodLink "com/example/outerview/outerview/ctf/TextsTakePinLaw" (24 : Nat) ({ cls := "com/example/outerview/outerview/ctf/Texts", name := "contentEquals", desc := "(I[BLcom/example/outerview/outerview/ctf/BitInput;)Z" } : Jvm.MethodName)).before a0 Z = true := hw _ (List.mem_of_getElem? (i := 66) rfl)
theorem wd67 {a0 : Array Value} {Z : State} (hw : ∀ d ∈ tables_1, d.before a0 Z = true) : (Jvm.Cond.declares ({ cls := "com/example/outerview/outerview/ctf/Texts", name := "contentEquals", desc := "(I[BLcom/example/outerview/outerview/ctf/BitInput;)Z" } : Jvm.MethodName)).before a0 Z = true := hw _ (List.mem_of_getElem? (i := 67) rfl)
theorem wd68 {a0 : Array Value} {Z : State} (hw : ∀ d ∈ tables_1, d.before a0 Z = true) : (Jvm.Cond.instanceMethod ({ cls := "com/example/outerview/outerview/ctf/Texts", name := "contentEquals", desc := "(I[BLcom/example/outerview/outerview/ctf/BitInput;)Z" } : Jvm.MethodName)).before a0 Z = true := hw _ (List.mem_of_getElem? (i := 68) rfl)
theorem wd69 {a0 : Array Value} {Z : State} (hw : ∀ d ∈ tables_1, d.before a0 Z = true) : (Jvm.Cond.selects "com/example/outerview/outerview/ctf/Texts" ({ cls := "com/example/outerview/outerview/ctf/Texts", name := "contentEquals", desc := "(I[BLcom/example/outerview/outerview/ctf/BitInput;)Z" } : Jvm.MethodName) ({ cls := "com/example/outerview/outerview/ctf/Texts", name := "contentEquals", desc := "(I[BLcom/example/outerview/outerview/ctf/BitInput;)Z" } : Jvm.MethodName)).before a0 Z = true := hw _ (List.mem_of_getElem? (i := 69) rfl)
theorem wd70 {a0 : Array Value} {Z : State} (hw : ∀ d ∈ tables_1, d.before a0 Z = true) : (Jvm.Cond.code ({ cls := "com/example/outerview/outerview/ctf/Texts", name := "contentEquals", desc := "(I[BLcom/example/outerview/outerview/ctf/BitInput;)Z" } : Jvm.MethodName) prog_146_method_10_code (6 : Nat) (Option.some Jvm.ClassFile.FieldType.boolean)).before a0 Z = true := hw _ (List.mem_of_getElem? (i := 70) rfl)
theorem wd71 {a0 : Array Value} {Z : State} (hw : ∀ d ∈ tables_1, d.before a0 Z = true) : (Jvm.Cond.methodLink "com/example/outerview/outerview/ctf/Texts" (63 : Nat) ({ cls := "java/util/Arrays", name := "binarySearch", desc := "([IIII)I" } : Jvm.MethodName)).before a0 Z = true := hw _ (List.mem_of_getElem? (i := 71) rfl)
theorem wd72 {a0 : Array Value} {Z : State} (hw : ∀ d ∈ tables_1, d.before a0 Z = true) : (Jvm.Cond.static ({ cls := "java/util/Arrays", name := "binarySearch", desc := "([IIII)I" } : Jvm.MethodName)).before a0 Z = true := hw _ (List.mem_of_getElem? (i := 72) rfl)
theorem wd73 {a0 : Array Value} {Z : State} (hw : ∀ d ∈ tables_1, d.before a0 Z = true) : (Jvm.Cond.code ({ cls := "java/util/Arrays", name := "binarySearch", desc := "([IIII)I" } : Jvm.MethodName) jdk_65_method_58_code (4 : Nat) (Option.some Jvm.ClassFile.FieldType.int)).before a0 Z = true := hw _ (List.mem_of_getElem? (i := 73) rfl)
theorem wd74 {a0 : Array Value} {Z : State} (hw : ∀ d ∈ tables_1, d.before a0 Z = true) : (Jvm.Cond.methodLink "java/util/Arrays" (13 : Nat) ({ cls := "java/util/Arrays", name := "rangeCheck", desc := "(III)V" } : Jvm.MethodName)).before a0 Z = true := hw _ (List.mem_of_getElem? (i := 74) rfl)
theorem wd75 {a0 : Array Value} {Z : State} (hw : ∀ d ∈ tables_1, d.before a0 Z = true) : (Jvm.Cond.static ({ cls := "java/util/Arrays", name := "rangeCheck", desc := "(III)V" } : Jvm.MethodName)).before a0 Z = true := hw _ (List.mem_of_getElem? (i := 75) rfl)
theorem wd76 {a0 : Array Value} {Z : State} (hw : ∀ d ∈ tables_1, d.before a0 Z = true) : (Jvm.Cond.code ({ cls := "java/util/Arrays", name := "rangeCheck", desc := "(III)V" } : Jvm.MethodName) jdk_65_method_30_code (3 : Nat) (Option.none : Option Jvm.ClassFile.FieldType)).before a0 Z = true := hw _ (List.mem_of_getElem? (i := 76) rfl)
theorem wd77 {a0 : Array Value} {Z : State} (hw : ∀ d ∈ tables_1, d.before a0 Z = true) : (Jvm.Cond.methodLink "java/util/Arrays" (209 : Nat) ({ cls := "java/util/Arrays", name := "binarySearch0", desc := "([IIII)I" } : Jvm.MethodName)).before a0 Z = true := hw _ (List.mem_of_getElem? (i := 77) rfl)
theorem wd78 {a0 : Array Value} {Z : State} (hw : ∀ d ∈ tables_1, d.before a0 Z = true) : (Jvm.Cond.static ({ cls := "java/util/Arrays", name := "binarySearch0", desc := "([IIII)I" } : Jvm.MethodName)).before a0 Z = true := hw _ (List.mem_of_getElem? (i := 78) rfl)
theorem wd79 {a0 : Array Value} {Z : State} (hw : ∀ d ∈ tables_1, d.before a0 Z = true) : (Jvm.Cond.code ({ cls := "java/util/Arrays", name := "binarySearch0", desc := "([IIII)I" } : Jvm.MethodName) jdk_65_method_59_code (8 : Nat) (Option.some Jvm.ClassFile.FieldType.int)).before a0 Z = true := hw _ (List.mem_of_getElem? (i := 79) rfl)
theorem wd80 {a0 : Array Value} {Z : State} (hw : ∀ d ∈ tables_1, d.before a0 Z = true) : (Jvm.Cond.constantLong "com/example/outerview/outerview/ctf/TextsTakePinLaw" (22 : Nat) (128 : Int64)).before a0 Z = true := hw _ (List.mem_of_getElem? (i := 80) rfl)
theorem d_jdk_29_method_65_code_0 : decode jdk_29_method_65_code 0 = .ok (.iload_n 0, 1) := by decide +kernel
theorem d_jdk_29_method_65_code_1 : decode jdk_29_method_65_code 1 = .ok (.iload_n 1, 1) := by decide +kernel
theorem d_jdk_29_method_65_code_2 : decode jdk_29_method_65_code 2 = .ok (.if_icmp .lt 7, 3) := by decide +kernel
theorem d_jdk_29_method_65_code_5 : decode jdk_29_method_65_code 5 = .ok (.iload_n 0, 1) := by decide +kernel
theorem d_jdk_29_method_65_code_6 : decode jdk_29_method_65_code 6 = .ok (.goto 4, 3) := by decide +kernel
theorem d_jdk_29_method_65_code_10 : decode jdk_29_method_65_code 10 = .ok (.ireturn, 1) := by decide +kernel
theorem d_jdk_29_method_69_code_0 : decode jdk_29_method_69_code 0 = .ok (.iload_n 0, 1) := by decide +kernel
theorem d_jdk_29_method_69_code_1 : decode jdk_29_method_69_code 1 = .ok (.iload_n 1, 1) := by decide +kernel
theorem d_jdk_29_method_69_code_2 : decode jdk_29_method_69_code 2 = .ok (.if_icmp .gt 7, 3) := by decide +kernel
theorem d_jdk_29_method_69_code_5 : decode jdk_29_method_69_code 5 = .ok (.iload_n 0, 1) := by decide +kernel
theorem d_jdk_29_method_69_code_6 : decode jdk_29_method_69_code 6 = .ok (.goto 4, 3) := by decide +kernel
theorem d_jdk_29_method_69_code_10 : decode jdk_29_method_69_code 10 = .ok (.ireturn, 1) := by decide +kernel
theorem d_jdk_29_method_70_code_0 : decode jdk_29_method_70_code 0 = .ok (.lload_n 0, 1) := by decide +kernel
theorem d_jdk_29_method_70_code_1 : decode jdk_29_method_70_code 1 = .ok (.lload_n 2, 1) := by decide +kernel
theorem d_jdk_29_method_70_code_2 : decode jdk_29_method_70_code 2 = .ok (.lcmp, 1) := by decide +kernel
theorem d_jdk_29_method_70_code_3 : decode jdk_29_method_70_code 3 = .ok (.ifCond .gt 7, 3) := by decide +kernel
theorem d_jdk_29_method_70_code_6 : decode jdk_29_method_70_code 6 = .ok (.lload_n 0, 1) := by decide +kernel
theorem d_jdk_29_method_70_code_7 : decode jdk_29_method_70_code 7 = .ok (.goto 4, 3) := by decide +kernel
theorem d_jdk_29_method_70_code_10 : decode jdk_29_method_70_code 10 = .ok (.lload_n 2, 1) := by decide +kernel
theorem d_jdk_29_method_70_code_11 : decode jdk_29_method_70_code 11 = .ok (.lreturn, 1) := by decide +kernel
theorem d_jdk_65_method_123_code_0 : decode jdk_65_method_123_code 0 = .ok (.iload_n 1, 1) := by decide +kernel
theorem d_jdk_65_method_123_code_1 : decode jdk_65_method_123_code 1 = .ok (.aload_n 0, 1) := by decide +kernel
theorem d_jdk_65_method_123_code_2 : decode jdk_65_method_123_code 2 = .ok (.arraylength, 1) := by decide +kernel
theorem d_jdk_65_method_123_code_3 : decode jdk_65_method_123_code 3 = .ok (.if_icmp .ne 11, 3) := by decide +kernel
theorem d_jdk_65_method_123_code_14 : decode jdk_65_method_123_code 14 = .ok (.iload_n 1, 1) := by decide +kernel
theorem d_jdk_65_method_123_code_15 : decode jdk_65_method_123_code 15 = .ok (.newarray .int, 2) := by decide +kernel
theorem d_jdk_65_method_123_code_17 : decode jdk_65_method_123_code 17 = .ok (.astore_n 2, 1) := by decide +kernel
theorem d_jdk_65_method_123_code_18 : decode jdk_65_method_123_code 18 = .ok (.aload_n 0, 1) := by decide +kernel
theorem d_jdk_65_method_123_code_19 : decode jdk_65_method_123_code 19 = .ok (.iconst 0, 1) := by decide +kernel
theorem d_jdk_65_method_123_code_20 : decode jdk_65_method_123_code 20 = .ok (.aload_n 2, 1) := by decide +kernel
theorem d_jdk_65_method_123_code_21 : decode jdk_65_method_123_code 21 = .ok (.iconst 0, 1) := by decide +kernel
theorem d_jdk_65_method_123_code_22 : decode jdk_65_method_123_code 22 = .ok (.aload_n 0, 1) := by decide +kernel
theorem d_jdk_65_method_123_code_23 : decode jdk_65_method_123_code 23 = .ok (.arraylength, 1) := by decide +kernel
theorem d_jdk_65_method_123_code_24 : decode jdk_65_method_123_code 24 = .ok (.iload_n 1, 1) := by decide +kernel
theorem d_jdk_65_method_123_code_25 : decode jdk_65_method_123_code 25 = .ok (.invokestatic 304, 3) := by decide +kernel
theorem d_jdk_65_method_123_code_28 : decode jdk_65_method_123_code 28 = .ok (.invokestatic 150, 3) := by decide +kernel
theorem d_jdk_65_method_123_code_31 : decode jdk_65_method_123_code 31 = .ok (.aload_n 2, 1) := by decide +kernel
theorem d_jdk_65_method_123_code_32 : decode jdk_65_method_123_code 32 = .ok (.areturn, 1) := by decide +kernel
theorem d_jdk_65_method_124_code_0 : decode jdk_65_method_124_code 0 = .ok (.iload_n 1, 1) := by decide +kernel
theorem d_jdk_65_method_124_code_1 : decode jdk_65_method_124_code 1 = .ok (.aload_n 0, 1) := by decide +kernel
theorem d_jdk_65_method_124_code_2 : decode jdk_65_method_124_code 2 = .ok (.arraylength, 1) := by decide +kernel
theorem d_jdk_65_method_124_code_3 : decode jdk_65_method_124_code 3 = .ok (.if_icmp .ne 11, 3) := by decide +kernel
theorem d_jdk_65_method_124_code_14 : decode jdk_65_method_124_code 14 = .ok (.iload_n 1, 1) := by decide +kernel
theorem d_jdk_65_method_124_code_15 : decode jdk_65_method_124_code 15 = .ok (.newarray .long, 2) := by decide +kernel
theorem d_jdk_65_method_124_code_17 : decode jdk_65_method_124_code 17 = .ok (.astore_n 2, 1) := by decide +kernel
theorem d_jdk_65_method_124_code_18 : decode jdk_65_method_124_code 18 = .ok (.aload_n 0, 1) := by decide +kernel
theorem d_jdk_65_method_124_code_19 : decode jdk_65_method_124_code 19 = .ok (.iconst 0, 1) := by decide +kernel
theorem d_jdk_65_method_124_code_20 : decode jdk_65_method_124_code 20 = .ok (.aload_n 2, 1) := by decide +kernel
theorem d_jdk_65_method_124_code_21 : decode jdk_65_method_124_code 21 = .ok (.iconst 0, 1) := by decide +kernel
theorem d_jdk_65_method_124_code_22 : decode jdk_65_method_124_code 22 = .ok (.aload_n 0, 1) := by decide +kernel
theorem d_jdk_65_method_124_code_23 : decode jdk_65_method_124_code 23 = .ok (.arraylength, 1) := by decide +kernel
theorem d_jdk_65_method_124_code_24 : decode jdk_65_method_124_code 24 = .ok (.iload_n 1, 1) := by decide +kernel
theorem d_jdk_65_method_124_code_25 : decode jdk_65_method_124_code 25 = .ok (.invokestatic 304, 3) := by decide +kernel
theorem d_jdk_65_method_124_code_28 : decode jdk_65_method_124_code 28 = .ok (.invokestatic 150, 3) := by decide +kernel
theorem d_jdk_65_method_124_code_31 : decode jdk_65_method_124_code 31 = .ok (.aload_n 2, 1) := by decide +kernel
theorem d_jdk_65_method_124_code_32 : decode jdk_65_method_124_code 32 = .ok (.areturn, 1) := by decide +kernel
theorem d_prog_146_method_7_code_0 : decode prog_146_method_7_code 0 = .ok (.aload_n 0, 1) := by decide +kernel
theorem d_prog_146_method_7_code_1 : decode prog_146_method_7_code 1 = .ok (.aload_n 0, 1) := by decide +kernel
theorem d_prog_146_method_7_code_2 : decode prog_146_method_7_code 2 = .ok (.getfield 17, 3) := by decide +kernel
theorem d_prog_146_method_7_code_5 : decode prog_146_method_7_code 5 = .ok (.iload_n 1, 1) := by decide +kernel
theorem d_prog_146_method_7_code_6 : decode prog_146_method_7_code 6 = .ok (.invokestatic 54, 3) := by decide +kernel
theorem d_prog_146_method_7_code_9 : decode prog_146_method_7_code 9 = .ok (.putfield 17, 3) := by decide +kernel
theorem d_prog_146_method_7_code_12 : decode prog_146_method_7_code 12 = .ok (.aload_n 0, 1) := by decide +kernel
theorem d_prog_146_method_7_code_13 : decode prog_146_method_7_code 13 = .ok (.aload_n 0, 1) := by decide +kernel
theorem d_prog_146_method_7_code_14 : decode prog_146_method_7_code 14 = .ok (.getfield 24, 3) := by decide +kernel
theorem d_prog_146_method_7_code_17 : decode prog_146_method_7_code 17 = .ok (.iload_n 1, 1) := by decide +kernel
theorem d_prog_146_method_7_code_18 : decode prog_146_method_7_code 18 = .ok (.invokestatic 60, 3) := by decide +kernel
theorem d_prog_146_method_7_code_21 : decode prog_146_method_7_code 21 = .ok (.putfield 24, 3) := by decide +kernel
theorem d_prog_146_method_7_code_24 : decode prog_146_method_7_code 24 = .ok (.aload_n 0, 1) := by decide +kernel
theorem d_prog_146_method_7_code_25 : decode prog_146_method_7_code 25 = .ok (.aload_n 0, 1) := by decide +kernel
theorem d_prog_146_method_7_code_26 : decode prog_146_method_7_code 26 = .ok (.getfield 27, 3) := by decide +kernel
theorem d_prog_146_method_7_code_29 : decode prog_146_method_7_code 29 = .ok (.iload_n 1, 1) := by decide +kernel
theorem d_prog_146_method_7_code_30 : decode prog_146_method_7_code 30 = .ok (.invokestatic 54, 3) := by decide +kernel
theorem d_prog_146_method_7_code_33 : decode prog_146_method_7_code 33 = .ok (.putfield 27, 3) := by decide +kernel
theorem d_prog_146_method_7_code_36 : decode prog_146_method_7_code 36 = .ok (.return_, 1) := by decide +kernel
theorem d_prog_146_method_6_code_0 : decode prog_146_method_6_code 0 = .ok (.aload_n 0, 1) := by decide +kernel
theorem d_prog_146_method_6_code_1 : decode prog_146_method_6_code 1 = .ok (.getfield 30, 3) := by decide +kernel
theorem d_prog_146_method_6_code_4 : decode prog_146_method_6_code 4 = .ok (.ifCond .le 31, 3) := by decide +kernel
theorem d_prog_146_method_6_code_35 : decode prog_146_method_6_code 35 = .ok (.lload 4, 2) := by decide +kernel
theorem d_prog_146_method_6_code_37 : decode prog_146_method_6_code 37 = .ok (.lconst 0, 1) := by decide +kernel
theorem d_prog_146_method_6_code_38 : decode prog_146_method_6_code 38 = .ok (.lcmp, 1) := by decide +kernel
theorem d_prog_146_method_6_code_39 : decode prog_146_method_6_code 39 = .ok (.ifCond .le 78, 3) := by decide +kernel
theorem d_prog_146_method_6_code_42 : decode prog_146_method_6_code 42 = .ok (.aload_n 0, 1) := by decide +kernel
theorem d_prog_146_method_6_code_43 : decode prog_146_method_6_code 43 = .ok (.getfield 30, 3) := by decide +kernel
theorem d_prog_146_method_6_code_46 : decode prog_146_method_6_code 46 = .ok (.aload_n 0, 1) := by decide +kernel
theorem d_prog_146_method_6_code_47 : decode prog_146_method_6_code 47 = .ok (.getfield 17, 3) := by decide +kernel
theorem d_prog_146_method_6_code_50 : decode prog_146_method_6_code 50 = .ok (.arraylength, 1) := by decide +kernel
theorem d_prog_146_method_6_code_51 : decode prog_146_method_6_code 51 = .ok (.if_icmp .ne 18, 3) := by decide +kernel
theorem d_prog_146_method_6_code_54 : decode prog_146_method_6_code 54 = .ok (.aload_n 0, 1) := by decide +kernel
theorem d_prog_146_method_6_code_55 : decode prog_146_method_6_code 55 = .ok (.bipush 8, 2) := by decide +kernel
theorem d_prog_146_method_6_code_57 : decode prog_146_method_6_code 57 = .ok (.iconst 2, 1) := by decide +kernel
theorem d_prog_146_method_6_code_58 : decode prog_146_method_6_code 58 = .ok (.aload_n 0, 1) := by decide +kernel
theorem d_prog_146_method_6_code_59 : decode prog_146_method_6_code 59 = .ok (.getfield 30, 3) := by decide +kernel
theorem d_prog_146_method_6_code_62 : decode prog_146_method_6_code 62 = .ok (.imul, 1) := by decide +kernel
theorem d_prog_146_method_6_code_63 : decode prog_146_method_6_code 63 = .ok (.invokestatic 34, 3) := by decide +kernel
theorem d_prog_146_method_6_code_66 : decode prog_146_method_6_code 66 = .ok (.invokevirtual 40, 3) := by decide +kernel
theorem d_prog_146_method_6_code_69 : decode prog_146_method_6_code 69 = .ok (.aload_n 0, 1) := by decide +kernel
theorem d_prog_146_method_6_code_70 : decode prog_146_method_6_code 70 = .ok (.getfield 17, 3) := by decide +kernel
theorem d_prog_146_method_6_code_73 : decode prog_146_method_6_code 73 = .ok (.aload_n 0, 1) := by decide +kernel
theorem d_prog_146_method_6_code_74 : decode prog_146_method_6_code 74 = .ok (.getfield 30, 3) := by decide +kernel
theorem d_prog_146_method_6_code_77 : decode prog_146_method_6_code 77 = .ok (.iload_n 1, 1) := by decide +kernel
theorem d_prog_146_method_6_code_78 : decode prog_146_method_6_code 78 = .ok (.iastore, 1) := by decide +kernel
theorem d_prog_146_method_6_code_79 : decode prog_146_method_6_code 79 = .ok (.aload_n 0, 1) := by decide +kernel
theorem d_prog_146_method_6_code_80 : decode prog_146_method_6_code 80 = .ok (.getfield 24, 3) := by decide +kernel
theorem d_prog_146_method_6_code_83 : decode prog_146_method_6_code 83 = .ok (.aload_n 0, 1) := by decide +kernel
theorem d_prog_146_method_6_code_84 : decode prog_146_method_6_code 84 = .ok (.getfield 30, 3) := by decide +kernel
theorem d_prog_146_method_6_code_87 : decode prog_146_method_6_code 87 = .ok (.lload_n 2, 1) := by decide +kernel
theorem d_prog_146_method_6_code_88 : decode prog_146_method_6_code 88 = .ok (.lastore, 1) := by decide +kernel
theorem d_prog_146_method_6_code_89 : decode prog_146_method_6_code 89 = .ok (.aload_n 0, 1) := by decide +kernel
theorem d_prog_146_method_6_code_90 : decode prog_146_method_6_code 90 = .ok (.getfield 27, 3) := by decide +kernel
theorem d_prog_146_method_6_code_93 : decode prog_146_method_6_code 93 = .ok (.aload_n 0, 1) := by decide +kernel
theorem d_prog_146_method_6_code_94 : decode prog_146_method_6_code 94 = .ok (.getfield 30, 3) := by decide +kernel
theorem d_prog_146_method_6_code_97 : decode prog_146_method_6_code 97 = .ok (.lload 4, 2) := by decide +kernel
theorem d_prog_146_method_6_code_99 : decode prog_146_method_6_code 99 = .ok (.ldc2_w 48, 3) := by decide +kernel
theorem d_prog_146_method_6_code_102 : decode prog_146_method_6_code 102 = .ok (.invokestatic 50, 3) := by decide +kernel
theorem d_prog_146_method_6_code_105 : decode prog_146_method_6_code 105 = .ok (.l2i, 1) := by decide +kernel
theorem d_prog_146_method_6_code_106 : decode prog_146_method_6_code 106 = .ok (.iastore, 1) := by decide +kernel
theorem d_prog_146_method_6_code_107 : decode prog_146_method_6_code 107 = .ok (.aload_n 0, 1) := by decide +kernel
theorem d_prog_146_method_6_code_108 : decode prog_146_method_6_code 108 = .ok (.dup, 1) := by decide +kernel
theorem d_prog_146_method_6_code_109 : decode prog_146_method_6_code 109 = .ok (.getfield 30, 3) := by decide +kernel
theorem d_prog_146_method_6_code_112 : decode prog_146_method_6_code 112 = .ok (.iconst 1, 1) := by decide +kernel
theorem d_prog_146_method_6_code_113 : decode prog_146_method_6_code 113 = .ok (.iadd, 1) := by decide +kernel
theorem d_prog_146_method_6_code_114 : decode prog_146_method_6_code 114 = .ok (.putfield 30, 3) := by decide +kernel
theorem d_prog_146_method_6_code_117 : decode prog_146_method_6_code 117 = .ok (.return_, 1) := by decide +kernel
theorem d_prog_146_method_5_code_0 : decode prog_146_method_5_code 0 = .ok (.aload_n 0, 1) := by decide +kernel
theorem d_prog_146_method_5_code_1 : decode prog_146_method_5_code 1 = .ok (.getfield 17, 3) := by decide +kernel
theorem d_prog_146_method_5_code_4 : decode prog_146_method_5_code 4 = .ok (.arraylength, 1) := by decide +kernel
theorem d_prog_146_method_5_code_5 : decode prog_146_method_5_code 5 = .ok (.i2l, 1) := by decide +kernel
theorem d_prog_146_method_5_code_6 : decode prog_146_method_5_code 6 = .ok (.ldc2_w 44, 3) := by decide +kernel
theorem d_prog_146_method_5_code_9 : decode prog_146_method_5_code 9 = .ok (.lmul, 1) := by decide +kernel
theorem d_prog_146_method_5_code_10 : decode prog_146_method_5_code 10 = .ok (.lreturn, 1) := by decide +kernel
theorem d_prog_146_method_4_code_0 : decode prog_146_method_4_code 0 = .ok (.aload_n 0, 1) := by decide +kernel
theorem d_prog_146_method_4_code_1 : decode prog_146_method_4_code 1 = .ok (.aload_n 1, 1) := by decide +kernel
theorem d_prog_146_method_4_code_2 : decode prog_146_method_4_code 2 = .ok (.getfield 17, 3) := by decide +kernel
theorem d_prog_146_method_4_code_5 : decode prog_146_method_4_code 5 = .ok (.putfield 17, 3) := by decide +kernel
theorem d_prog_146_method_4_code_8 : decode prog_146_method_4_code 8 = .ok (.aload_n 0, 1) := by decide +kernel
theorem d_prog_146_method_4_code_9 : decode prog_146_method_4_code 9 = .ok (.aload_n 1, 1) := by decide +kernel
theorem d_prog_146_method_4_code_10 : decode prog_146_method_4_code 10 = .ok (.getfield 24, 3) := by decide +kernel
theorem d_prog_146_method_4_code_13 : decode prog_146_method_4_code 13 = .ok (.putfield 24, 3) := by decide +kernel
theorem d_prog_146_method_4_code_16 : decode prog_146_method_4_code 16 = .ok (.aload_n 0, 1) := by decide +kernel
theorem d_prog_146_method_4_code_17 : decode prog_146_method_4_code 17 = .ok (.aload_n 1, 1) := by decide +kernel
theorem d_prog_146_method_4_code_18 : decode prog_146_method_4_code 18 = .ok (.getfield 27, 3) := by decide +kernel
theorem d_prog_146_method_4_code_21 : decode prog_146_method_4_code 21 = .ok (.putfield 27, 3) := by decide +kernel
theorem d_prog_146_method_4_code_24 : decode prog_146_method_4_code 24 = .ok (.aload_n 0, 1) := by decide +kernel
theorem d_prog_146_method_4_code_25 : decode prog_146_method_4_code 25 = .ok (.iconst 0, 1) := by decide +kernel
theorem d_prog_146_method_4_code_26 : decode prog_146_method_4_code 26 = .ok (.putfield 30, 3) := by decide +kernel
theorem d_prog_146_method_4_code_29 : decode prog_146_method_4_code 29 = .ok (.aload_n 1, 1) := by decide +kernel
theorem d_prog_146_method_4_code_30 : decode prog_146_method_4_code 30 = .ok (.getstatic 13, 3) := by decide +kernel
theorem d_prog_146_method_4_code_33 : decode prog_146_method_4_code 33 = .ok (.putfield 17, 3) := by decide +kernel
theorem d_prog_146_method_4_code_36 : decode prog_146_method_4_code 36 = .ok (.aload_n 1, 1) := by decide +kernel
theorem d_prog_146_method_4_code_37 : decode prog_146_method_4_code 37 = .ok (.getstatic 20, 3) := by decide +kernel
theorem d_prog_146_method_4_code_40 : decode prog_146_method_4_code 40 = .ok (.putfield 24, 3) := by decide +kernel
theorem d_prog_146_method_4_code_43 : decode prog_146_method_4_code 43 = .ok (.aload_n 1, 1) := by decide +kernel
theorem d_prog_146_method_4_code_44 : decode prog_146_method_4_code 44 = .ok (.getstatic 13, 3) := by decide +kernel
theorem d_prog_146_method_4_code_47 : decode prog_146_method_4_code 47 = .ok (.putfield 27, 3) := by decide +kernel
theorem d_prog_146_method_4_code_50 : decode prog_146_method_4_code 50 = .ok (.aload_n 1, 1) := by decide +kernel
theorem d_prog_146_method_4_code_51 : decode prog_146_method_4_code 51 = .ok (.iconst 0, 1) := by decide +kernel
theorem d_prog_146_method_4_code_52 : decode prog_146_method_4_code 52 = .ok (.putfield 30, 3) := by decide +kernel
theorem d_prog_146_method_4_code_55 : decode prog_146_method_4_code 55 = .ok (.return_, 1) := by decide +kernel
theorem d_jdk_65_method_30_code_0 : decode jdk_65_method_30_code 0 = .ok (.iload_n 1, 1) := by decide +kernel
theorem d_jdk_65_method_30_code_1 : decode jdk_65_method_30_code 1 = .ok (.iload_n 2, 1) := by decide +kernel
theorem d_jdk_65_method_30_code_2 : decode jdk_65_method_30_code 2 = .ok (.if_icmp .le 44, 3) := by decide +kernel
theorem d_jdk_65_method_30_code_46 : decode jdk_65_method_30_code 46 = .ok (.iload_n 1, 1) := by decide +kernel
theorem d_jdk_65_method_30_code_47 : decode jdk_65_method_30_code 47 = .ok (.ifCond .ge 12, 3) := by decide +kernel
theorem d_jdk_65_method_30_code_59 : decode jdk_65_method_30_code 59 = .ok (.iload_n 2, 1) := by decide +kernel
theorem d_jdk_65_method_30_code_60 : decode jdk_65_method_30_code 60 = .ok (.iload_n 0, 1) := by decide +kernel
theorem d_jdk_65_method_30_code_61 : decode jdk_65_method_30_code 61 = .ok (.if_icmp .le 12, 3) := by decide +kernel
theorem d_jdk_65_method_30_code_73 : decode jdk_65_method_30_code 73 = .ok (.return_, 1) := by decide +kernel
theorem d_jdk_65_method_59_code_0 : decode jdk_65_method_59_code 0 = .ok (.iload_n 1, 1) := by decide +kernel
theorem d_jdk_65_method_59_code_1 : decode jdk_65_method_59_code 1 = .ok (.istore 4, 2) := by decide +kernel
theorem d_jdk_65_method_59_code_3 : decode jdk_65_method_59_code 3 = .ok (.iload_n 2, 1) := by decide +kernel
theorem d_jdk_65_method_59_code_4 : decode jdk_65_method_59_code 4 = .ok (.iconst 1, 1) := by decide +kernel
theorem d_jdk_65_method_59_code_5 : decode jdk_65_method_59_code 5 = .ok (.isub, 1) := by decide +kernel
theorem d_jdk_65_method_59_code_6 : decode jdk_65_method_59_code 6 = .ok (.istore 5, 2) := by decide +kernel
theorem d_jdk_65_method_59_code_8 : decode jdk_65_method_59_code 8 = .ok (.iload 4, 2) := by decide +kernel
theorem d_jdk_65_method_59_code_10 : decode jdk_65_method_59_code 10 = .ok (.iload 5, 2) := by decide +kernel
theorem d_jdk_65_method_59_code_12 : decode jdk_65_method_59_code 12 = .ok (.if_icmp .gt 54, 3) := by decide +kernel
theorem d_jdk_65_method_59_code_15 : decode jdk_65_method_59_code 15 = .ok (.iload 4, 2) := by decide +kernel
theorem d_jdk_65_method_59_code_17 : decode jdk_65_method_59_code 17 = .ok (.iload 5, 2) := by decide +kernel
theorem d_jdk_65_method_59_code_19 : decode jdk_65_method_59_code 19 = .ok (.iadd, 1) := by decide +kernel
theorem d_jdk_65_method_59_code_20 : decode jdk_65_method_59_code 20 = .ok (.iconst 1, 1) := by decide +kernel
theorem d_jdk_65_method_59_code_21 : decode jdk_65_method_59_code 21 = .ok (.iushr, 1) := by decide +kernel
theorem d_jdk_65_method_59_code_22 : decode jdk_65_method_59_code 22 = .ok (.istore 6, 2) := by decide +kernel
theorem d_jdk_65_method_59_code_24 : decode jdk_65_method_59_code 24 = .ok (.aload_n 0, 1) := by decide +kernel
theorem d_jdk_65_method_59_code_25 : decode jdk_65_method_59_code 25 = .ok (.iload 6, 2) := by decide +kernel
theorem d_jdk_65_method_59_code_27 : decode jdk_65_method_59_code 27 = .ok (.iaload, 1) := by decide +kernel
theorem d_jdk_65_method_59_code_28 : decode jdk_65_method_59_code 28 = .ok (.istore 7, 2) := by decide +kernel
theorem d_jdk_65_method_59_code_30 : decode jdk_65_method_59_code 30 = .ok (.iload 7, 2) := by decide +kernel
theorem d_jdk_65_method_59_code_32 : decode jdk_65_method_59_code 32 = .ok (.iload_n 3, 1) := by decide +kernel
theorem d_jdk_65_method_59_code_33 : decode jdk_65_method_59_code 33 = .ok (.if_icmp .ge 12, 3) := by decide +kernel
theorem d_jdk_65_method_59_code_45 : decode jdk_65_method_59_code 45 = .ok (.iload 7, 2) := by decide +kernel
theorem d_jdk_65_method_59_code_47 : decode jdk_65_method_59_code 47 = .ok (.iload_n 3, 1) := by decide +kernel
theorem d_jdk_65_method_59_code_48 : decode jdk_65_method_59_code 48 = .ok (.if_icmp .le 12, 3) := by decide +kernel
theorem d_jdk_65_method_59_code_60 : decode jdk_65_method_59_code 60 = .ok (.iload 6, 2) := by decide +kernel
theorem d_jdk_65_method_59_code_62 : decode jdk_65_method_59_code 62 = .ok (.ireturn, 1) := by decide +kernel
theorem d_jdk_65_method_59_code_66 : decode jdk_65_method_59_code 66 = .ok (.iload 4, 2) := by decide +kernel
theorem d_jdk_65_method_59_code_68 : decode jdk_65_method_59_code 68 = .ok (.iconst 1, 1) := by decide +kernel
theorem d_jdk_65_method_59_code_69 : decode jdk_65_method_59_code 69 = .ok (.iadd, 1) := by decide +kernel
theorem d_jdk_65_method_59_code_70 : decode jdk_65_method_59_code 70 = .ok (.ineg, 1) := by decide +kernel
theorem d_jdk_65_method_59_code_71 : decode jdk_65_method_59_code 71 = .ok (.ireturn, 1) := by decide +kernel
theorem d_jdk_65_method_58_code_0 : decode jdk_65_method_58_code 0 = .ok (.aload_n 0, 1) := by decide +kernel
theorem d_jdk_65_method_58_code_1 : decode jdk_65_method_58_code 1 = .ok (.arraylength, 1) := by decide +kernel
theorem d_jdk_65_method_58_code_2 : decode jdk_65_method_58_code 2 = .ok (.iload_n 1, 1) := by decide +kernel
theorem d_jdk_65_method_58_code_3 : decode jdk_65_method_58_code 3 = .ok (.iload_n 2, 1) := by decide +kernel
theorem d_jdk_65_method_58_code_4 : decode jdk_65_method_58_code 4 = .ok (.invokestatic 13, 3) := by decide +kernel
theorem d_jdk_65_method_58_code_7 : decode jdk_65_method_58_code 7 = .ok (.aload_n 0, 1) := by decide +kernel
theorem d_jdk_65_method_58_code_8 : decode jdk_65_method_58_code 8 = .ok (.iload_n 1, 1) := by decide +kernel
theorem d_jdk_65_method_58_code_9 : decode jdk_65_method_58_code 9 = .ok (.iload_n 2, 1) := by decide +kernel
theorem d_jdk_65_method_58_code_10 : decode jdk_65_method_58_code 10 = .ok (.iload_n 3, 1) := by decide +kernel
theorem d_jdk_65_method_58_code_11 : decode jdk_65_method_58_code 11 = .ok (.invokestatic 209, 3) := by decide +kernel
theorem d_jdk_65_method_58_code_14 : decode jdk_65_method_58_code 14 = .ok (.ireturn, 1) := by decide +kernel
theorem d_prog_146_method_10_code_0 : decode prog_146_method_10_code 0 = .ok (.aload_n 0, 1) := by decide +kernel
theorem d_prog_146_method_10_code_1 : decode prog_146_method_10_code 1 = .ok (.getfield 17, 3) := by decide +kernel
theorem d_prog_146_method_10_code_4 : decode prog_146_method_10_code 4 = .ok (.iconst 0, 1) := by decide +kernel
theorem d_prog_146_method_10_code_5 : decode prog_146_method_10_code 5 = .ok (.aload_n 0, 1) := by decide +kernel
theorem d_prog_146_method_10_code_6 : decode prog_146_method_10_code 6 = .ok (.getfield 30, 3) := by decide +kernel
theorem d_prog_146_method_10_code_9 : decode prog_146_method_10_code 9 = .ok (.iload_n 1, 1) := by decide +kernel
theorem d_prog_146_method_10_code_10 : decode prog_146_method_10_code 10 = .ok (.invokestatic 63, 3) := by decide +kernel
theorem d_prog_146_method_10_code_13 : decode prog_146_method_10_code 13 = .ok (.istore 4, 2) := by decide +kernel
theorem d_prog_146_method_10_code_15 : decode prog_146_method_10_code 15 = .ok (.iload 4, 2) := by decide +kernel
theorem d_prog_146_method_10_code_17 : decode prog_146_method_10_code 17 = .ok (.ifCond .ge 18, 3) := by decide +kernel
theorem d_prog_146_method_10_code_20 : decode prog_146_method_10_code 20 = .ok (.aload_n 2, 1) := by decide +kernel
theorem d_prog_146_method_10_code_21 : decode prog_146_method_10_code 21 = .ok (.arraylength, 1) := by decide +kernel
theorem d_prog_146_method_10_code_22 : decode prog_146_method_10_code 22 = .ok (.ifCond .ne 7, 3) := by decide +kernel
theorem d_prog_146_method_10_code_25 : decode prog_146_method_10_code 25 = .ok (.iconst 1, 1) := by decide +kernel
theorem d_prog_146_method_10_code_26 : decode prog_146_method_10_code 26 = .ok (.goto 4, 3) := by decide +kernel
theorem d_prog_146_method_10_code_30 : decode prog_146_method_10_code 30 = .ok (.istore 5, 2) := by decide +kernel
theorem d_prog_146_method_10_code_32 : decode prog_146_method_10_code 32 = .ok (.goto 37, 3) := by decide +kernel
theorem d_prog_146_method_10_code_35 : decode prog_146_method_10_code 35 = .ok (.aload_n 0, 1) := by decide +kernel
theorem d_prog_146_method_10_code_36 : decode prog_146_method_10_code 36 = .ok (.getfield 27, 3) := by decide +kernel
theorem d_prog_146_method_10_code_39 : decode prog_146_method_10_code 39 = .ok (.iload 4, 2) := by decide +kernel
theorem d_prog_146_method_10_code_41 : decode prog_146_method_10_code 41 = .ok (.iaload, 1) := by decide +kernel
theorem d_prog_146_method_10_code_42 : decode prog_146_method_10_code 42 = .ok (.aload_n 2, 1) := by decide +kernel
theorem d_prog_146_method_10_code_43 : decode prog_146_method_10_code 43 = .ok (.arraylength, 1) := by decide +kernel
theorem d_prog_146_method_10_code_44 : decode prog_146_method_10_code 44 = .ok (.if_icmp .ne 22, 3) := by decide +kernel
theorem d_prog_146_method_10_code_66 : decode prog_146_method_10_code 66 = .ok (.iconst 0, 1) := by decide +kernel
theorem d_prog_146_method_10_code_67 : decode prog_146_method_10_code 67 = .ok (.istore 5, 2) := by decide +kernel
theorem d_prog_146_method_10_code_69 : decode prog_146_method_10_code 69 = .ok (.iload 5, 2) := by decide +kernel
theorem d_prog_146_method_10_code_71 : decode prog_146_method_10_code 71 = .ok (.ireturn, 1) := by decide +kernel
theorem d_prog_146_method_1_code_0 : decode prog_146_method_1_code 0 = .ok (.aload_n 0, 1) := by decide +kernel
theorem d_prog_146_method_1_code_1 : decode prog_146_method_1_code 1 = .ok (.invokespecial 7, 3) := by decide +kernel
theorem d_prog_146_method_1_code_4 : decode prog_146_method_1_code 4 = .ok (.aload_n 0, 1) := by decide +kernel
theorem d_prog_146_method_1_code_5 : decode prog_146_method_1_code 5 = .ok (.getstatic 13, 3) := by decide +kernel
theorem d_prog_146_method_1_code_8 : decode prog_146_method_1_code 8 = .ok (.putfield 17, 3) := by decide +kernel
theorem d_prog_146_method_1_code_11 : decode prog_146_method_1_code 11 = .ok (.aload_n 0, 1) := by decide +kernel
theorem d_prog_146_method_1_code_12 : decode prog_146_method_1_code 12 = .ok (.getstatic 20, 3) := by decide +kernel
theorem d_prog_146_method_1_code_15 : decode prog_146_method_1_code 15 = .ok (.putfield 24, 3) := by decide +kernel
theorem d_prog_146_method_1_code_18 : decode prog_146_method_1_code 18 = .ok (.aload_n 0, 1) := by decide +kernel
theorem d_prog_146_method_1_code_19 : decode prog_146_method_1_code 19 = .ok (.getstatic 13, 3) := by decide +kernel
theorem d_prog_146_method_1_code_22 : decode prog_146_method_1_code 22 = .ok (.putfield 27, 3) := by decide +kernel
theorem d_prog_146_method_1_code_25 : decode prog_146_method_1_code 25 = .ok (.return_, 1) := by decide +kernel
theorem pn0 : plainName "java/util/Arrays" = true := by first | (simp [plainName, overriddenIn]; done) | decide +kernel
theorem pn1 : plainName "com/example/outerview/outerview/ctf/Texts" = true := by first | (simp [plainName, overriddenIn]; done) | decide +kernel
theorem pn2 : plainName "com/example/outerview/outerview/ctf/TextsTakePinLaw" = true := by first | (simp [plainName, overriddenIn]; done) | decide +kernel
theorem pd0 : parseMethodDescriptor "(II)I" = some ⟨[.int, .int], some .int⟩ := by decide +kernel
theorem pd1 : parseMethodDescriptor "([II)[I" = some ⟨[(.array .int), .int], some (.array .int)⟩ := by decide +kernel
theorem pd2 : parseMethodDescriptor "([JI)[J" = some ⟨[(.array .long), .int], some (.array .long)⟩ := by decide +kernel
theorem pd3 : parseMethodDescriptor "(I)V" = some ⟨[.int], none⟩ := by decide +kernel
theorem pd4 : parseMethodDescriptor "(JJ)J" = some ⟨[.long, .long], some .long⟩ := by decide +kernel
theorem pd5 : parseMethodDescriptor "(III)V" = some ⟨[.int, .int, .int], none⟩ := by decide +kernel
theorem pd6 : parseMethodDescriptor "([IIII)I" = some ⟨[(.array .int), .int, .int, .int], some .int⟩ := by decide +kernel
theorem pd7 : parseMethodDescriptor "()V" = some ⟨[], none⟩ := by decide +kernel
theorem pd8 : parseMethodDescriptor "(IJJ)V" = some ⟨[.int, .long, .long], none⟩ := by decide +kernel
theorem pd9 : parseMethodDescriptor "()J" = some ⟨[], some .long⟩ := by decide +kernel
theorem pd10 : parseMethodDescriptor "(Lcom/example/outerview/outerview/ctf/Texts;)V" = some ⟨[(.object "com/example/outerview/outerview/ctf/Texts")], none⟩ := by decide +kernel
theorem pd11 : parseMethodDescriptor "(I[BLcom/example/outerview/outerview/ctf/BitInput;)Z" = some ⟨[.int, (.array .byte), (.object "com/example/outerview/outerview/ctf/BitInput")], some .boolean⟩ := by decide +kernel
theorem own_av0 {s : State} {args : Array Value} {t : Term} {a : Addr} {ty : FieldType} (f : Nat → Value) (ev : t.eval args s none [] s = some (.ref a)) (ha : (Cond.arrayOf t ty).value args s none s [] = some true) (hl : (Cond.eq (.length t) (.int 0)).value args s none s [] = some true) : Av s s.heap a ty 0 f := by
  obtain ⟨c, A⟩ := Arr.start ev ha
  have hl' := Cond.eq_int (Cond.before_iff.mpr hl) rfl
  have fin := A.fin (Vm.Alike.refl s.vm)
  have h31 := Jvm.Free.SBG.length_lt ev fin hl'
  have e : (Term.length t).eval args s none [] s = some (.int (Int32.ofNat c.slots.size)) := by simp [Term.eval, ev, fin, h31]
  have h2 : Int32.ofNat c.slots.size = 0 := by simpa using Option.some.inj (e.symm.trans hl')
  have h3 := congrArg Int32.toInt h2
  rw [Int32.toInt_ofNat_small h31] at h3
  have h4 : (0 : Int32).toInt = 0 := rfl
  exact ⟨c, A, by omega, by decide, fun i hi => absurd hi (Nat.not_lt_zero _)⟩
set_option maxRecDepth 65536 in
set_option maxHeartbeats 40000000 in
theorem c_max {Z : State} {a0 : Array Value} (hw : ∀ d ∈ tables_1, d.before a0 Z = true) {h : Heap} {Ts : TsT} {Li : LiT} (i j : Int32) (h1 : ¬ i < j) :
    Con Z (⟨"java/lang/Math", "max", "(II)I"⟩ : MethodName) jdk_29_method_65_code 2 (some .int) ({ frames := 0, cells := 0, slots := 0, locals := 0 } : Room) [(.int i), (.int j)] h Ts Li (noW) (Pu (some (.int i)) h Ts Li) := by
  refine Con.of (ws := Fw h noW) (Ls := #[.val (.int i), .val (.int j)]) (by decide +kernel) (fun m => by first | rfl | (simp [entryFrame, mkF, argsToLocals, Value.category]; done)) (fun E0 => ?_)
  refine Walk.iloadN (pc' := 1) d_jdk_29_method_65_code_0 rfl ?_
  refine Walk.iloadN (pc' := 2) d_jdk_29_method_65_code_1 rfl ?_
  refine Walk.icNo (pc' := 5) d_jdk_29_method_65_code_2 (XT.ii_lt_f h1) ?_
  refine Walk.iloadN (pc' := 6) d_jdk_29_method_65_code_5 rfl ?_
  refine Walk.goto (pc' := 10) d_jdk_29_method_65_code_6 ?_
  exact Walk.iret d_jdk_29_method_65_code_10 rfl ⟨rfl, rfl, rfl, rfl⟩ (fun _ q => q) (Nat.le_of_ble_eq_true rfl) (Nat.le_of_ble_eq_true rfl)
set_option maxRecDepth 65536 in
set_option maxHeartbeats 40000000 in
theorem c_min {Z : State} {a0 : Array Value} (hw : ∀ d ∈ tables_1, d.before a0 Z = true) {h : Heap} {Ts : TsT} {Li : LiT} (i j : Int32) (h1 : ¬ j < i) :
    Con Z (⟨"java/lang/Math", "min", "(II)I"⟩ : MethodName) jdk_29_method_69_code 2 (some .int) ({ frames := 0, cells := 0, slots := 0, locals := 0 } : Room) [(.int i), (.int j)] h Ts Li (noW) (Pu (some (.int i)) h Ts Li) := by
  refine Con.of (ws := Fw h noW) (Ls := #[.val (.int i), .val (.int j)]) (by decide +kernel) (fun m => by first | rfl | (simp [entryFrame, mkF, argsToLocals, Value.category]; done)) (fun E0 => ?_)
  refine Walk.iloadN (pc' := 1) d_jdk_29_method_69_code_0 rfl ?_
  refine Walk.iloadN (pc' := 2) d_jdk_29_method_69_code_1 rfl ?_
  refine Walk.icNo (pc' := 5) d_jdk_29_method_69_code_2 (XT.ii_gt_f h1) ?_
  refine Walk.iloadN (pc' := 6) d_jdk_29_method_69_code_5 rfl ?_
  refine Walk.goto (pc' := 10) d_jdk_29_method_69_code_6 ?_
  exact Walk.iret d_jdk_29_method_69_code_10 rfl ⟨rfl, rfl, rfl, rfl⟩ (fun _ q => q) (Nat.le_of_ble_eq_true rfl) (Nat.le_of_ble_eq_true rfl)
set_option maxRecDepth 65536 in
set_option maxHeartbeats 40000000 in
theorem c_minL {Z : State} {a0 : Array Value} (hw : ∀ d ∈ tables_1, d.before a0 Z = true) {h : Heap} {Ts : TsT} {Li : LiT} (i j r : Int64) (h1 : (j < i ∧ r = j) ∨ (¬ j < i ∧ r = i)) :
    Con Z (⟨"java/lang/Math", "min", "(JJ)J"⟩ : MethodName) jdk_29_method_70_code 4 (some .long) ({ frames := 0, cells := 0, slots := 0, locals := 0 } : Room) [(.long i), (.long j)] h Ts Li (noW) (Pu (some (.long r)) h Ts Li) := by
  refine Con.of (ws := Fw h noW) (Ls := #[.val (.long i), .second, .val (.long j), .second]) (by decide +kernel) (fun m => by simp [entryFrame, mkF, argsToLocals, cat_i, cat_j, cat_r, cat_n]) (fun E0 => ?_)
  refine Walk.lloadN (pc' := 1) d_jdk_29_method_70_code_0 rfl ?_
  refine Walk.lloadN (pc' := 2) d_jdk_29_method_70_code_1 rfl ?_
  refine Walk.lcmp (pc' := 3) d_jdk_29_method_70_code_2 ?_
  rcases h1 with ⟨h1, rfl⟩ | ⟨h1, rfl⟩
  · skip
    refine Walk.ifYes (pc' := 10) d_jdk_29_method_70_code_3 (XT.ll_gt_t h1) ?_
    refine Walk.lloadN (pc' := 11) d_jdk_29_method_70_code_10 rfl ?_
    exact Walk.lret d_jdk_29_method_70_code_11 rfl ⟨rfl, rfl, rfl, rfl⟩ (fun _ q => q) (Nat.le_of_ble_eq_true rfl) (Nat.le_of_ble_eq_true rfl)
  · skip
    refine Walk.ifNo (pc' := 6) d_jdk_29_method_70_code_3 (XT.ll_gt_f h1) ?_
    refine Walk.lloadN (pc' := 7) d_jdk_29_method_70_code_6 rfl ?_
    refine Walk.goto (pc' := 11) d_jdk_29_method_70_code_7 ?_
    exact Walk.lret d_jdk_29_method_70_code_11 rfl ⟨rfl, rfl, rfl, rfl⟩ (fun _ q => q) (Nat.le_of_ble_eq_true rfl) (Nat.le_of_ble_eq_true rfl)
set_option maxRecDepth 65536 in
set_option maxHeartbeats 40000000 in
theorem c_cpI {Z : State} {a0 : Array Value} (hw : ∀ d ∈ tables_1, d.before a0 Z = true) {h : Heap} {Ts : TsT} {Li : LiT} (s : Addr) (f : Nat → Value) (A1 : Av Z h s .int 0 f) :
    Con Z (⟨"java/util/Arrays", "copyOf", "([II)[I"⟩ : MethodName) jdk_65_method_123_code 3 (some (.array .int)) ({ frames := 1, cells := 1, slots := 8, locals := 18 } : Room) [(.ref s), (.int (8 : Int32))] h Ts Li (noW) (fun v h' Ts' Li' => (∃ d, v = some (.ref d) ∧ h.size ≤ d ∧ Av Z h' d .int 8 (fun _ => .int 0)) ∧ Ts' = Ts ∧ Li' = Li) := by
  refine Con.of (ws := Fw h noW) (Ls := #[.val (.ref s), .val (.int (8 : Int32)), .unset]) (plainFor_of_name pn0) (fun m => by first | rfl | (simp [entryFrame, mkF, argsToLocals, Value.category]; done)) (fun E0 => ?_)
  refine Walk.iloadN (pc' := 1) d_jdk_65_method_123_code_0 rfl ?_
  refine Walk.aloadN (pc' := 2) d_jdk_65_method_123_code_1 rfl rfl ?_
  refine Walk.alen (pc' := 3) (z := (0 : Int32)) A1 d_jdk_65_method_123_code_2 rfl ?_
  refine Walk.icYes (pc' := 14) d_jdk_65_method_123_code_3 (XT.ii_ne_t (by decide)) ?_
  refine Walk.iloadN (pc' := 15) d_jdk_65_method_123_code_14 rfl ?_
  refine Walk.newA (pc' := 17) (aty := .int) (cap := 8) (wd39 hw) d_jdk_65_method_123_code_15 (by decide) (by decide) (by decide) (by decide) (by decide) (fun h1 x3 g4 g5 g6 K2 A7 R8 => ?_)
  refine Walk.astoreN (pc' := 18) (Ls' := #[.val (.ref s), .val (.int (8 : Int32)), .val (.ref x3)]) d_jdk_65_method_123_code_17 rfl rfl ?_
  refine Walk.aloadN (pc' := 19) d_jdk_65_method_123_code_18 rfl rfl ?_
  refine Walk.iconst (pc' := 20) (0 : Int32) d_jdk_65_method_123_code_19 rfl ?_
  refine Walk.aloadN (pc' := 21) d_jdk_65_method_123_code_20 rfl rfl ?_
  refine Walk.iconst (pc' := 22) (0 : Int32) d_jdk_65_method_123_code_21 rfl ?_
  refine Walk.aloadN (pc' := 23) d_jdk_65_method_123_code_22 rfl rfl ?_
  refine Walk.alen (pc' := 24) (z := (0 : Int32)) (A1.kq K2 (fun _ => (fun q => q))) d_jdk_65_method_123_code_23 rfl ?_
  refine Walk.iloadN (pc' := 25) d_jdk_65_method_123_code_24 rfl ?_
  refine Walk.callS (pc' := 28) (Wd := 4) (as := [(.int (0 : Int32)), (.int (8 : Int32))]) (rest := [(.int (0 : Int32)), (.ref x3), (.int (0 : Int32)), (.ref s)]) (wd40 hw) (wd41 hw) (wd29 hw) (wd42 hw) ((c_min hw 0 8 (by decide)).pay (wd42 hw) (wd29 hw) (by decide) (by decide)) (hlen := lenOf pd0 rfl) (hd := d_jdk_65_method_123_code_25) (hst := rfl) (hW := Nat.le_of_eq rfl) (hsz := rfl) (hc1 := Nat.le_of_ble_eq_true rfl) (hl1 := Nat.le_of_ble_eq_true rfl) (hv := Fw.upN) (kk := fun v9 h13 Ts10 Li11 q12 K14 => ?_)
  obtain ⟨rfl, rfl, rfl, rfl⟩ := q12
  show Walk _ _ _ _ _ _ _ _ _ _ _ _ _ _ 1 8 28 _ [(.int (0 : Int32)), (.int (0 : Int32)), (.ref x3), (.int (0 : Int32)), (.ref s)]
  obtain ⟨k1, a1⟩ := Av.arv (A1.kq K2 (fun _ => (fun q => q))) (z := 0) (by decide) rfl (vs := []) (d := .int 0) (fun i hi => absurd hi (Nat.not_lt_zero _)) (fun i hi => absurd hi (Nat.not_lt_zero _))
  obtain ⟨k2, a2⟩ := R8
  refine Walk.cpy (pc' := 31) (us := []) (st' := []) (wd43 hw) (wd46 hw) (wd44 hw) (wd45 hw) a1 a2 (Or.inl ⟨rfl, rfl⟩) (by decide) (by decide) (by decide) (by decide) (by decide) rfl (by decide) d_jdk_65_method_123_code_28 rfl rfl (Wd := 0) (Nat.le_of_eq rfl) (by decide) (by decide) g5 (fun y q => q.elim id fun q => q.elim) (fun y q => Or.inl q) (fun h15 K16 R17 => ?_)
  refine Walk.aloadN (pc' := 32) d_jdk_65_method_123_code_31 rfl rfl ?_
  have A9 := Av.of_arv R17 (n := 8) rfl
  exact Walk.aret d_jdk_65_method_123_code_32 rfl rfl rfl ⟨⟨_, rfl, g4, A9.congr (fun i hi => rfl)⟩, rfl, rfl⟩ (fun _ q => q) (Nat.le_of_ble_eq_true rfl) (Nat.le_of_ble_eq_true rfl)
set_option maxRecDepth 65536 in
set_option maxHeartbeats 40000000 in
theorem c_cpJ {Z : State} {a0 : Array Value} (hw : ∀ d ∈ tables_1, d.before a0 Z = true) {h : Heap} {Ts : TsT} {Li : LiT} (s : Addr) (f : Nat → Value) (A1 : Av Z h s .long 0 f) :
    Con Z (⟨"java/util/Arrays", "copyOf", "([JI)[J"⟩ : MethodName) jdk_65_method_124_code 3 (some (.array .long)) ({ frames := 1, cells := 1, slots := 8, locals := 18 } : Room) [(.ref s), (.int (8 : Int32))] h Ts Li (noW) (fun v h' Ts' Li' => (∃ d, v = some (.ref d) ∧ h.size ≤ d ∧ Av Z h' d .long 8 (fun _ => .long 0)) ∧ Ts' = Ts ∧ Li' = Li) := by
  refine Con.of (ws := Fw h noW) (Ls := #[.val (.ref s), .val (.int (8 : Int32)), .unset]) (plainFor_of_name pn0) (fun m => by first | rfl | (simp [entryFrame, mkF, argsToLocals, Value.category]; done)) (fun E0 => ?_)
  refine Walk.iloadN (pc' := 1) d_jdk_65_method_124_code_0 rfl ?_
  refine Walk.aloadN (pc' := 2) d_jdk_65_method_124_code_1 rfl rfl ?_
  refine Walk.alen (pc' := 3) (z := (0 : Int32)) A1 d_jdk_65_method_124_code_2 rfl ?_
  refine Walk.icYes (pc' := 14) d_jdk_65_method_124_code_3 (XT.ii_ne_t (by decide)) ?_
  refine Walk.iloadN (pc' := 15) d_jdk_65_method_124_code_14 rfl ?_
  refine Walk.newA (pc' := 17) (aty := .long) (cap := 8) (wd50 hw) d_jdk_65_method_124_code_15 (by decide) (by decide) (by decide) (by decide) (by decide) (fun h18 x20 g21 g22 g23 K19 A24 R25 => ?_)
  refine Walk.astoreN (pc' := 18) (Ls' := #[.val (.ref s), .val (.int (8 : Int32)), .val (.ref x20)]) d_jdk_65_method_124_code_17 rfl rfl ?_
  refine Walk.aloadN (pc' := 19) d_jdk_65_method_124_code_18 rfl rfl ?_
  refine Walk.iconst (pc' := 20) (0 : Int32) d_jdk_65_method_124_code_19 rfl ?_
  refine Walk.aloadN (pc' := 21) d_jdk_65_method_124_code_20 rfl rfl ?_
  refine Walk.iconst (pc' := 22) (0 : Int32) d_jdk_65_method_124_code_21 rfl ?_
  refine Walk.aloadN (pc' := 23) d_jdk_65_method_124_code_22 rfl rfl ?_
  refine Walk.alen (pc' := 24) (z := (0 : Int32)) (A1.kq K19 (fun _ => (fun q => q))) d_jdk_65_method_124_code_23 rfl ?_
  refine Walk.iloadN (pc' := 25) d_jdk_65_method_124_code_24 rfl ?_
  refine Walk.callS (pc' := 28) (Wd := 4) (as := [(.int (0 : Int32)), (.int (8 : Int32))]) (rest := [(.int (0 : Int32)), (.ref x20), (.int (0 : Int32)), (.ref s)]) (wd40 hw) (wd41 hw) (wd29 hw) (wd42 hw) ((c_min hw 0 8 (by decide)).pay (wd42 hw) (wd29 hw) (by decide) (by decide)) (hlen := lenOf pd0 rfl) (hd := d_jdk_65_method_124_code_25) (hst := rfl) (hW := Nat.le_of_eq rfl) (hsz := rfl) (hc1 := Nat.le_of_ble_eq_true rfl) (hl1 := Nat.le_of_ble_eq_true rfl) (hv := Fw.upN) (kk := fun v26 h30 Ts27 Li28 q29 K31 => ?_)
  obtain ⟨rfl, rfl, rfl, rfl⟩ := q29
  show Walk _ _ _ _ _ _ _ _ _ _ _ _ _ _ 1 8 28 _ [(.int (0 : Int32)), (.int (0 : Int32)), (.ref x20), (.int (0 : Int32)), (.ref s)]
  obtain ⟨k1, a1⟩ := Av.arv (A1.kq K19 (fun _ => (fun q => q))) (z := 0) (by decide) rfl (vs := []) (d := .long 0) (fun i hi => absurd hi (Nat.not_lt_zero _)) (fun i hi => absurd hi (Nat.not_lt_zero _))
  obtain ⟨k2, a2⟩ := R25
  refine Walk.cpy (pc' := 31) (us := []) (st' := []) (wd43 hw) (wd46 hw) (wd44 hw) (wd45 hw) a1 a2 (Or.inl ⟨rfl, rfl⟩) (by decide) (by decide) (by decide) (by decide) (by decide) rfl (by decide) d_jdk_65_method_124_code_28 rfl rfl (Wd := 0) (Nat.le_of_eq rfl) (by decide) (by decide) g22 (fun y q => q.elim id fun q => q.elim) (fun y q => Or.inl q) (fun h32 K33 R34 => ?_)
  refine Walk.aloadN (pc' := 32) d_jdk_65_method_124_code_31 rfl rfl ?_
  have A9 := Av.of_arv R34 (n := 8) rfl
  exact Walk.aret d_jdk_65_method_124_code_32 rfl rfl rfl ⟨⟨_, rfl, g21, A9.congr (fun i hi => rfl)⟩, rfl, rfl⟩ (fun _ q => q) (Nat.le_of_ble_eq_true rfl) (Nat.le_of_ble_eq_true rfl)
set_option maxRecDepth 65536 in
set_option maxHeartbeats 40000000 in
theorem c_resize {Z : State} {a0 : Array Value} (hw : ∀ d ∈ tables_1, d.before a0 Z = true) {h : Heap} {Ts : TsT} {Li : LiT} (x : Addr) (ni nl : Addr) (fi fl : Nat → Value) (A1 : Av Z h ni .int 0 fi) (A2 : Av Z h nl .long 0 fl) (E1 : Exa Z h x "com/example/outerview/outerview/ctf/Texts") (F1 : Fld Z h x "com/example/outerview/outerview/ctf/Texts" "slots" "[I" (.ref ni)) (F2 : Fld Z h x "com/example/outerview/outerview/ctf/Texts" "starts" "[J" (.ref nl)) (F3 : Fld Z h x "com/example/outerview/outerview/ctf/Texts" "lengths" "[I" (.ref ni)) (gz : Z.heap.size ≤ x) :
    Con Z (⟨"com/example/outerview/outerview/ctf/Texts", "resize", "(I)V"⟩ : MethodName) prog_146_method_7_code 2 none ({ frames := 2, cells := 3, slots := 24, locals := 33 } : Room) [(.ref x), (.int (8 : Int32))] h Ts Li (fun y => y = (⟨x, Jvm.RoadKit.slotOf Z "com/example/outerview/outerview/ctf/Texts" "slots" "[I"⟩ : Loc) ∨ y = (⟨x, Jvm.RoadKit.slotOf Z "com/example/outerview/outerview/ctf/Texts" "starts" "[J"⟩ : Loc) ∨ y = (⟨x, Jvm.RoadKit.slotOf Z "com/example/outerview/outerview/ctf/Texts" "lengths" "[I"⟩ : Loc)) (fun v h' Ts' Li' => (v = none ∧ Ts' = Ts ∧ Li' = Li) ∧ (∃ s t l, h.size ≤ s ∧ h.size ≤ t ∧ h.size ≤ l ∧ s ≠ t ∧ s ≠ l ∧ t ≠ l ∧ Fld Z h' x "com/example/outerview/outerview/ctf/Texts" "slots" "[I" (.ref s) ∧ Fld Z h' x "com/example/outerview/outerview/ctf/Texts" "starts" "[J" (.ref t) ∧ Fld Z h' x "com/example/outerview/outerview/ctf/Texts" "lengths" "[I" (.ref l) ∧ Av Z h' s .int 8 (fun _ => .int 0) ∧ Av Z h' t .long 8 (fun _ => .long 0) ∧ Av Z h' l .int 8 (fun _ => .int 0))) := by
  refine Con.of (ws := Fw h fun y => y = (⟨x, Jvm.RoadKit.slotOf Z "com/example/outerview/outerview/ctf/Texts" "slots" "[I"⟩ : Loc) ∨ y = (⟨x, Jvm.RoadKit.slotOf Z "com/example/outerview/outerview/ctf/Texts" "starts" "[J"⟩ : Loc) ∨ y = (⟨x, Jvm.RoadKit.slotOf Z "com/example/outerview/outerview/ctf/Texts" "lengths" "[I"⟩ : Loc)) (Ls := #[.val (.ref x), .val (.int (8 : Int32))]) (plainFor_of_name pn1) (fun m => by first | rfl | (simp [entryFrame, mkF, argsToLocals, Value.category]; done)) (fun E0 => ?_)
  refine Walk.aloadN (pc' := 1) d_prog_146_method_7_code_0 rfl rfl ?_
  refine Walk.aloadN (pc' := 2) d_prog_146_method_7_code_1 rfl rfl ?_
  refine Walk.getF (pc' := 5) (host := "") (Or.inl (wd11 hw)) Via.refl F1 d_prog_146_method_7_code_2 ?_
  refine Walk.iloadN (pc' := 6) d_prog_146_method_7_code_5 rfl ?_
  refine Walk.callS (pc' := 9) (Wd := 1) (as := [(.ref ni), (.int (8 : Int32))]) (rest := [(.ref x)]) (wd35 hw) (wd36 hw) (wd37 hw) (wd38 hw) ((c_cpI hw ni _ A1).pay (wd38 hw) (wd37 hw) (by decide) (by decide)) (hlen := lenOf pd1 rfl) (hd := d_prog_146_method_7_code_6) (hst := rfl) (hW := Nat.le_of_eq rfl) (hsz := rfl) (hc1 := Nat.le_of_ble_eq_true rfl) (hl1 := Nat.le_of_ble_eq_true rfl) (hv := Fw.upN) (kk := fun v35 h39 Ts36 Li37 q38 K40 => ?_)
  obtain ⟨⟨s, rfl, gs, As⟩, rfl, rfl⟩ := q38
  show Walk _ _ _ _ _ _ _ _ _ _ _ _ _ _ 1 8 9 _ [(.ref s), (.ref x)]
  refine Walk.putF (pc' := 12) (host := "") (Or.inl (wd11 hw)) Via.refl (F1.kq K40 (fun q => q)) (E1.kq K40) (Or.inl (wd12 hw)) (wd1 hw) (ty := (.array .int)) (by decide) rfl rfl d_prog_146_method_7_code_9 gz (Fw.old (Or.inl rfl)) (fun h41 K42 F43 => ?_)
  refine Walk.aloadN (pc' := 13) d_prog_146_method_7_code_12 rfl rfl ?_
  refine Walk.aloadN (pc' := 14) d_prog_146_method_7_code_13 rfl rfl ?_
  refine Walk.getF (pc' := 17) (host := "") (Or.inl (wd15 hw)) Via.refl ((F2.kq K40 (fun q => q)).kq K42 (nws (slot_ne (a0 := a0) (Or.inl (wd16 hw)) (Or.inl (wd12 hw)) (by decide) (t := (.array .long)) (by decide) (t' := (.array .int)) (by decide)))) d_prog_146_method_7_code_14 ?_
  refine Walk.iloadN (pc' := 18) d_prog_146_method_7_code_17 rfl ?_
  refine Walk.callS (pc' := 21) (Wd := 1) (as := [(.ref nl), (.int (8 : Int32))]) (rest := [(.ref x)]) (wd47 hw) (wd48 hw) (wd37 hw) (wd49 hw) ((c_cpJ hw nl _ ((A2.kq K40 (fun _ => (fun q => q))).kq K42 (fun _ => (nw (Ne.symm (exa_av E1 (wd1 hw) A2)))))).pay (wd49 hw) (wd37 hw) (by decide) (by decide)) (hlen := lenOf pd2 rfl) (hd := d_prog_146_method_7_code_18) (hst := rfl) (hW := Nat.le_of_eq rfl) (hsz := rfl) (hc1 := Nat.le_of_ble_eq_true rfl) (hl1 := Nat.le_of_ble_eq_true rfl) (hv := Fw.upN) (kk := fun v44 h48 Ts45 Li46 q47 K49 => ?_)
  obtain ⟨⟨t, rfl, gt, At⟩, rfl, rfl⟩ := q47
  show Walk _ _ _ _ _ _ _ _ _ _ _ _ _ _ 2 16 21 _ [(.ref t), (.ref x)]
  refine Walk.putF (pc' := 24) (host := "") (Or.inl (wd15 hw)) Via.refl (((F2.kq K40 (fun q => q)).kq K42 (nws (slot_ne (a0 := a0) (Or.inl (wd16 hw)) (Or.inl (wd12 hw)) (by decide) (t := (.array .long)) (by decide) (t' := (.array .int)) (by decide)))).kq K49 (fun q => q)) (((E1.kq K40).kq K42).kq K49) (Or.inl (wd16 hw)) (wd1 hw) (ty := (.array .long)) (by decide) rfl rfl d_prog_146_method_7_code_21 gz (Fw.old (Or.inr (Or.inl rfl))) (fun h50 K51 F52 => ?_)
  refine Walk.aloadN (pc' := 25) d_prog_146_method_7_code_24 rfl rfl ?_
  refine Walk.aloadN (pc' := 26) d_prog_146_method_7_code_25 rfl rfl ?_
  refine Walk.getF (pc' := 29) (host := "") (Or.inl (wd17 hw)) Via.refl ((((F3.kq K40 (fun q => q)).kq K42 (nws (slot_ne (a0 := a0) (Or.inl (wd18 hw)) (Or.inl (wd12 hw)) (by decide) (t := (.array .int)) (by decide) (t' := (.array .int)) (by decide)))).kq K49 (fun q => q)).kq K51 (nws (slot_ne (a0 := a0) (Or.inl (wd18 hw)) (Or.inl (wd16 hw)) (by decide) (t := (.array .int)) (by decide) (t' := (.array .long)) (by decide)))) d_prog_146_method_7_code_26 ?_
  refine Walk.iloadN (pc' := 30) d_prog_146_method_7_code_29 rfl ?_
  refine Walk.callS (pc' := 33) (Wd := 1) (as := [(.ref ni), (.int (8 : Int32))]) (rest := [(.ref x)]) (wd35 hw) (wd36 hw) (wd37 hw) (wd38 hw) ((c_cpI hw ni _ ((((A1.kq K40 (fun _ => (fun q => q))).kq K42 (fun _ => (nw (Ne.symm (exa_av E1 (wd1 hw) A1))))).kq K49 (fun _ => (fun q => q))).kq K51 (fun _ => (nw (Ne.symm (exa_av E1 (wd1 hw) A1)))))).pay (wd38 hw) (wd37 hw) (by decide) (by decide)) (hlen := lenOf pd1 rfl) (hd := d_prog_146_method_7_code_30) (hst := rfl) (hW := Nat.le_of_eq rfl) (hsz := rfl) (hc1 := Nat.le_of_ble_eq_true rfl) (hl1 := Nat.le_of_ble_eq_true rfl) (hv := Fw.upN) (kk := fun v53 h57 Ts54 Li55 q56 K58 => ?_)
  obtain ⟨⟨l, rfl, gl, Al⟩, rfl, rfl⟩ := q56
  show Walk _ _ _ _ _ _ _ _ _ _ _ _ _ _ 3 24 33 _ [(.ref l), (.ref x)]
  refine Walk.putF (pc' := 36) (host := "") (Or.inl (wd17 hw)) Via.refl (((((F3.kq K40 (fun q => q)).kq K42 (nws (slot_ne (a0 := a0) (Or.inl (wd18 hw)) (Or.inl (wd12 hw)) (by decide) (t := (.array .int)) (by decide) (t' := (.array .int)) (by decide)))).kq K49 (fun q => q)).kq K51 (nws (slot_ne (a0 := a0) (Or.inl (wd18 hw)) (Or.inl (wd16 hw)) (by decide) (t := (.array .int)) (by decide) (t' := (.array .long)) (by decide)))).kq K58 (fun q => q)) (((((E1.kq K40).kq K42).kq K49).kq K51).kq K58) (Or.inl (wd18 hw)) (wd1 hw) (ty := (.array .int)) (by decide) rfl rfl d_prog_146_method_7_code_33 gz (Fw.old (Or.inr (Or.inr rfl))) (fun h59 K60 F61 => ?_)
  exact Walk.ret d_prog_146_method_7_code_36 rfl ⟨⟨rfl, rfl, rfl⟩, s, t, l, (Nat.le_trans (Nat.le_refl _) gs), (Nat.le_trans (Nat.le_trans (Nat.le_trans (Nat.le_refl _) K40.1) K42.1) gt), (Nat.le_trans (Nat.le_trans (Nat.le_trans (Nat.le_trans (Nat.le_trans (Nat.le_refl _) K40.1) K42.1) K49.1) K51.1) gl), (ltne (As.kq K42 (fun _ => (nw (gtne E1.lt gs)))).lt gt), (ltne (((As.kq K42 (fun _ => (nw (gtne E1.lt gs)))).kq K49 (fun _ => (fun q => q))).kq K51 (fun _ => (nw (gtne E1.lt gs)))).lt gl), (ltne (At.kq K51 (fun _ => (nw (gtne ((E1.kq K40).kq K42).lt gt)))).lt gl), ((((F43.kq K49 (fun q => q)).kq K51 (nws (slot_ne (a0 := a0) (Or.inl (wd12 hw)) (Or.inl (wd16 hw)) (by decide) (t := (.array .int)) (by decide) (t' := (.array .long)) (by decide)))).kq K58 (fun q => q)).kq K60 (nws (slot_ne (a0 := a0) (Or.inl (wd12 hw)) (Or.inl (wd18 hw)) (by decide) (t := (.array .int)) (by decide) (t' := (.array .int)) (by decide)))), ((F52.kq K58 (fun q => q)).kq K60 (nws (slot_ne (a0 := a0) (Or.inl (wd16 hw)) (Or.inl (wd18 hw)) (by decide) (t := (.array .long)) (by decide) (t' := (.array .int)) (by decide)))), F61, (((((As.kq K42 (fun _ => (nw (gtne E1.lt gs)))).kq K49 (fun _ => (fun q => q))).kq K51 (fun _ => (nw (gtne E1.lt gs)))).kq K58 (fun _ => (fun q => q))).kq K60 (fun _ => (nw (gtne E1.lt gs)))), (((At.kq K51 (fun _ => (nw (gtne ((E1.kq K40).kq K42).lt gt)))).kq K58 (fun _ => (fun q => q))).kq K60 (fun _ => (nw (gtne ((E1.kq K40).kq K42).lt gt)))), (Al.kq K60 (fun _ => (nw (gtne ((((E1.kq K40).kq K42).kq K49).kq K51).lt gl))))⟩ (fun _ q => q) (Nat.le_of_ble_eq_true rfl) (Nat.le_of_ble_eq_true rfl)
set_option maxRecDepth 65536 in
set_option maxHeartbeats 40000000 in
theorem c_set0 {Z : State} {a0 : Array Value} (hw : ∀ d ∈ tables_1, d.before a0 Z = true) {h : Heap} {Ts : TsT} {Li : LiT} (x : Addr) (k : Int32) (a b : Int64) (hb0 : ¬ 0 < b) (F4 : Fld Z h x "com/example/outerview/outerview/ctf/Texts" "held" "I" (.int 0)) :
    Con Z (⟨"com/example/outerview/outerview/ctf/Texts", "set", "(IJJ)V"⟩ : MethodName) prog_146_method_6_code 6 none ({ frames := 3, cells := 3, slots := 24, locals := 48 } : Room) [(.ref x), (.int k), (.long a), (.long b)] h Ts Li (noW) (Pu (none) h Ts Li) := by
  refine Con.of (ws := Fw h noW) (Ls := #[.val (.ref x), .val (.int k), .val (.long a), .second, .val (.long b), .second]) (plainFor_of_name pn1) (fun m => by simp [entryFrame, mkF, argsToLocals, cat_i, cat_j, cat_r, cat_n]) (fun E0 => ?_)
  refine Walk.aloadN (pc' := 1) d_prog_146_method_6_code_0 rfl rfl ?_
  refine Walk.getF (pc' := 4) (host := "") (Or.inl (wd25 hw)) Via.refl F4 d_prog_146_method_6_code_1 ?_
  refine Walk.ifYes (pc' := 35) d_prog_146_method_6_code_4 (XT.i0_le_t (by decide)) ?_
  refine Walk.lload (pc' := 37) d_prog_146_method_6_code_35 rfl ?_
  refine Walk.lconst (pc' := 38) (0 : Int64) d_prog_146_method_6_code_37 rfl ?_
  refine Walk.lcmp (pc' := 39) d_prog_146_method_6_code_38 ?_
  refine Walk.ifYes (pc' := 117) d_prog_146_method_6_code_39 (XT.ll_le_t hb0) ?_
  exact Walk.ret d_prog_146_method_6_code_117 rfl ⟨rfl, rfl, rfl, rfl⟩ (fun _ q => q) (Nat.le_of_ble_eq_true rfl) (Nat.le_of_ble_eq_true rfl)
set_option maxRecDepth 65536 in
set_option maxHeartbeats 40000000 in
theorem c_set1 {Z : State} {a0 : Array Value} (hw : ∀ d ∈ tables_1, d.before a0 Z = true) {h : Heap} {Ts : TsT} {Li : LiT} (x : Addr) (k : Int32) (a b r : Int64) (hb0 : 0 < b) (hr : ((1048576 : Int64) < b ∧ r = (1048576 : Int64)) ∨ (¬ (1048576 : Int64) < b ∧ r = b)) (ni nl : Addr) (fi fl : Nat → Value) (A1 : Av Z h ni .int 0 fi) (A2 : Av Z h nl .long 0 fl) (E1 : Exa Z h x "com/example/outerview/outerview/ctf/Texts") (F1 : Fld Z h x "com/example/outerview/outerview/ctf/Texts" "slots" "[I" (.ref ni)) (F2 : Fld Z h x "com/example/outerview/outerview/ctf/Texts" "starts" "[J" (.ref nl)) (F3 : Fld Z h x "com/example/outerview/outerview/ctf/Texts" "lengths" "[I" (.ref ni)) (F4 : Fld Z h x "com/example/outerview/outerview/ctf/Texts" "held" "I" (.int 0)) (gz : Z.heap.size ≤ x) :
    Con Z (⟨"com/example/outerview/outerview/ctf/Texts", "set", "(IJJ)V"⟩ : MethodName) prog_146_method_6_code 6 none ({ frames := 3, cells := 3, slots := 24, locals := 48 } : Room) [(.ref x), (.int k), (.long a), (.long b)] h Ts Li (fun y => y.base = x) (fun v h' Ts' Li' => (v = none ∧ Ts' = Ts ∧ Li' = Li) ∧ (∃ s t l f, h.size ≤ s ∧ h.size ≤ t ∧ h.size ≤ l ∧ s ≠ t ∧ s ≠ l ∧ t ≠ l ∧ Fld Z h' x "com/example/outerview/outerview/ctf/Texts" "slots" "[I" (.ref s) ∧ Fld Z h' x "com/example/outerview/outerview/ctf/Texts" "starts" "[J" (.ref t) ∧ Fld Z h' x "com/example/outerview/outerview/ctf/Texts" "lengths" "[I" (.ref l) ∧ Fld Z h' x "com/example/outerview/outerview/ctf/Texts" "held" "I" (.int 1) ∧ Av Z h' s .int 8 (fun i => if i = 0 then .int k else .int 0) ∧ Av Z h' t .long 8 f ∧ Av Z h' l .int 8 (fun i => if i = 0 then .int r.toInt32 else .int 0))) := by
  refine Con.of (ws := Fw h fun y => y.base = x) (Ls := #[.val (.ref x), .val (.int k), .val (.long a), .second, .val (.long b), .second]) (plainFor_of_name pn1) (fun m => by simp [entryFrame, mkF, argsToLocals, cat_i, cat_j, cat_r, cat_n]) (fun E0 => ?_)
  refine Walk.aloadN (pc' := 1) d_prog_146_method_6_code_0 rfl rfl ?_
  refine Walk.getF (pc' := 4) (host := "") (Or.inl (wd25 hw)) Via.refl F4 d_prog_146_method_6_code_1 ?_
  refine Walk.ifYes (pc' := 35) d_prog_146_method_6_code_4 (XT.i0_le_t (by decide)) ?_
  refine Walk.lload (pc' := 37) d_prog_146_method_6_code_35 rfl ?_
  refine Walk.lconst (pc' := 38) (0 : Int64) d_prog_146_method_6_code_37 rfl ?_
  refine Walk.lcmp (pc' := 39) d_prog_146_method_6_code_38 ?_
  refine Walk.ifNo (pc' := 42) d_prog_146_method_6_code_39 (XT.ll_le_f hb0) ?_
  refine Walk.aloadN (pc' := 43) d_prog_146_method_6_code_42 rfl rfl ?_
  refine Walk.getF (pc' := 46) (host := "") (Or.inl (wd25 hw)) Via.refl F4 d_prog_146_method_6_code_43 ?_
  refine Walk.aloadN (pc' := 47) d_prog_146_method_6_code_46 rfl rfl ?_
  refine Walk.getF (pc' := 50) (host := "") (Or.inl (wd11 hw)) Via.refl F1 d_prog_146_method_6_code_47 ?_
  refine Walk.alen (pc' := 51) (z := (0 : Int32)) A1 d_prog_146_method_6_code_50 rfl ?_
  refine Walk.icNo (pc' := 54) d_prog_146_method_6_code_51 (XT.ii_ne_f rfl) ?_
  refine Walk.aloadN (pc' := 55) d_prog_146_method_6_code_54 rfl rfl ?_
  refine Walk.bipush (pc' := 57) (8 : Int32) d_prog_146_method_6_code_55 rfl ?_
  refine Walk.iconst (pc' := 58) (2 : Int32) d_prog_146_method_6_code_57 rfl ?_
  refine Walk.aloadN (pc' := 59) d_prog_146_method_6_code_58 rfl rfl ?_
  refine Walk.getF (pc' := 62) (host := "") (Or.inl (wd25 hw)) Via.refl F4 d_prog_146_method_6_code_59 ?_
  refine Walk.imul (pc' := 63) d_prog_146_method_6_code_62 ?_
  refine Walk.callS (pc' := 66) (Wd := 1) (as := [(.int (8 : Int32)), (.int ((2 : Int32) * (0 : Int32)))]) (rest := [(.ref x)]) (wd27 hw) (wd28 hw) (wd29 hw) (wd30 hw) ((c_max hw 8 (2 * 0) (by decide)).pay (wd30 hw) (wd29 hw) (by decide) (by decide)) (hlen := lenOf pd0 rfl) (hd := d_prog_146_method_6_code_63) (hst := rfl) (hW := Nat.le_of_eq rfl) (hsz := rfl) (hc1 := Nat.le_of_ble_eq_true rfl) (hl1 := Nat.le_of_ble_eq_true rfl) (hv := Fw.upN) (kk := fun v62 h66 Ts63 Li64 q65 K67 => ?_)
  obtain ⟨rfl, rfl, rfl, rfl⟩ := q65
  show Walk _ _ _ _ _ _ _ _ _ _ _ _ _ _ 0 0 66 _ [(.int (8 : Int32)), (.ref x)]
  refine Walk.callP (pc' := 69) (a := x) (Wd := 0) (as := [(.int (8 : Int32))]) (rest := []) (wd31 hw) (wd32 hw) (wd33 hw) (wd34 hw) (wd23 hw) (wd22 hw) rfl E1 ((c_resize hw x ni nl _ _ A1 A2 E1 F1 F2 F3 gz).pay (wd34 hw) (wd2 hw) (by decide) (by decide)) (hlen := lenOf pd3 rfl) (hd := d_prog_146_method_6_code_66) (hst := rfl) (hW := Nat.le_of_eq rfl) (hsz := rfl) (hc1 := Nat.le_of_ble_eq_true rfl) (hl1 := Nat.le_of_ble_eq_true rfl) (hv := (Fw.up (fun y q => Fw.old (by rcases q with rfl | rfl | rfl <;> rfl)))) (kk := fun v68 h72 Ts69 Li70 q71 K73 => ?_)
  obtain ⟨⟨rfl, rfl, rfl⟩, s, t, l, gs, gt, gl, n1, n2, n3, G1, G2, G3, As, At, Al⟩ := q71
  show Walk _ _ _ _ _ _ _ _ _ _ _ _ _ _ 3 24 69 _ []
  refine Walk.aloadN (pc' := 70) d_prog_146_method_6_code_69 rfl rfl ?_
  refine Walk.getF (pc' := 73) (host := "") (Or.inl (wd11 hw)) Via.refl G1 d_prog_146_method_6_code_70 ?_
  refine Walk.aloadN (pc' := 74) d_prog_146_method_6_code_73 rfl rfl ?_
  refine Walk.getF (pc' := 77) (host := "") (Or.inl (wd25 hw)) Via.refl (F4.kq K73 (not_or.mpr ⟨(nws (slot_ne (a0 := a0) (Or.inl (wd26 hw)) (Or.inl (wd12 hw)) (by decide) (t := .int) (by decide) (t' := (.array .int)) (by decide))), (not_or.mpr ⟨(nws (slot_ne (a0 := a0) (Or.inl (wd26 hw)) (Or.inl (wd16 hw)) (by decide) (t := .int) (by decide) (t' := (.array .long)) (by decide))), (nws (slot_ne (a0 := a0) (Or.inl (wd26 hw)) (Or.inl (wd18 hw)) (by decide) (t := .int) (by decide) (t' := (.array .int)) (by decide)))⟩)⟩)) d_prog_146_method_6_code_74 ?_
  refine Walk.iloadN (pc' := 78) d_prog_146_method_6_code_77 rfl ?_
  refine Walk.iastore (pc' := 79) (i := 0) As d_prog_146_method_6_code_78 (by decide) rfl (by decide) (Nat.le_trans E0.1 gs) (Or.inl gs) (fun h74 K75 A76 Wr77 => ?_)
  refine Walk.aloadN (pc' := 80) d_prog_146_method_6_code_79 rfl rfl ?_
  refine Walk.getF (pc' := 83) (host := "") (Or.inl (wd15 hw)) Via.refl (G2.kq K75 (nw (ltne E1.lt gs))) d_prog_146_method_6_code_80 ?_
  refine Walk.aloadN (pc' := 84) d_prog_146_method_6_code_83 rfl rfl ?_
  refine Walk.getF (pc' := 87) (host := "") (Or.inl (wd25 hw)) Via.refl ((F4.kq K73 (not_or.mpr ⟨(nws (slot_ne (a0 := a0) (Or.inl (wd26 hw)) (Or.inl (wd12 hw)) (by decide) (t := .int) (by decide) (t' := (.array .int)) (by decide))), (not_or.mpr ⟨(nws (slot_ne (a0 := a0) (Or.inl (wd26 hw)) (Or.inl (wd16 hw)) (by decide) (t := .int) (by decide) (t' := (.array .long)) (by decide))), (nws (slot_ne (a0 := a0) (Or.inl (wd26 hw)) (Or.inl (wd18 hw)) (by decide) (t := .int) (by decide) (t' := (.array .int)) (by decide)))⟩)⟩)).kq K75 (nw (ltne E1.lt gs))) d_prog_146_method_6_code_84 ?_
  refine Walk.lloadN (pc' := 88) d_prog_146_method_6_code_87 rfl ?_
  refine Walk.lastore (pc' := 89) (i := 0) (At.kq K75 (fun _ => (nw (Ne.symm n1)))) d_prog_146_method_6_code_88 (by decide) rfl (by decide) (Nat.le_trans E0.1 gt) (Or.inl gt) (fun h78 K79 A80 Wr81 => ?_)
  refine Walk.aloadN (pc' := 90) d_prog_146_method_6_code_89 rfl rfl ?_
  refine Walk.getF (pc' := 93) (host := "") (Or.inl (wd17 hw)) Via.refl ((G3.kq K75 (nw (ltne E1.lt gs))).kq K79 (nw (ltne E1.lt gt))) d_prog_146_method_6_code_90 ?_
  refine Walk.aloadN (pc' := 94) d_prog_146_method_6_code_93 rfl rfl ?_
  refine Walk.getF (pc' := 97) (host := "") (Or.inl (wd25 hw)) Via.refl (((F4.kq K73 (not_or.mpr ⟨(nws (slot_ne (a0 := a0) (Or.inl (wd26 hw)) (Or.inl (wd12 hw)) (by decide) (t := .int) (by decide) (t' := (.array .int)) (by decide))), (not_or.mpr ⟨(nws (slot_ne (a0 := a0) (Or.inl (wd26 hw)) (Or.inl (wd16 hw)) (by decide) (t := .int) (by decide) (t' := (.array .long)) (by decide))), (nws (slot_ne (a0 := a0) (Or.inl (wd26 hw)) (Or.inl (wd18 hw)) (by decide) (t := .int) (by decide) (t' := (.array .int)) (by decide)))⟩)⟩)).kq K75 (nw (ltne E1.lt gs))).kq K79 (nw (ltne E1.lt gt))) d_prog_146_method_6_code_94 ?_
  refine Walk.lload (pc' := 99) d_prog_146_method_6_code_97 rfl ?_
  refine Walk.ldcJ (pc' := 102) (wd51 hw) d_prog_146_method_6_code_99 ?_
  refine Walk.callS (pc' := 105) (Wd := 2) (as := [(.long b), (.long (1048576 : Int64))]) (rest := [(.int (0 : Int32)), (.ref l)]) (wd52 hw) (wd53 hw) (wd29 hw) (wd54 hw) ((c_minL hw b (1048576 : Int64) r hr).pay (wd54 hw) (wd29 hw) (by decide) (by decide)) (hlen := lenOf pd4 rfl) (hd := d_prog_146_method_6_code_102) (hst := rfl) (hW := Nat.le_of_eq rfl) (hsz := rfl) (hc1 := Nat.le_of_ble_eq_true rfl) (hl1 := Nat.le_of_ble_eq_true rfl) (hv := Fw.upN) (kk := fun v82 h86 Ts83 Li84 q85 K87 => ?_)
  obtain ⟨rfl, rfl, rfl, rfl⟩ := q85
  show Walk _ _ _ _ _ _ _ _ _ _ _ _ _ _ 3 24 105 _ [(.long r), (.int (0 : Int32)), (.ref l)]
  refine Walk.l2i (pc' := 106) d_prog_146_method_6_code_105 ?_
  refine Walk.iastore (pc' := 107) (i := 0) ((Al.kq K75 (fun _ => (nw (Ne.symm n2)))).kq K79 (fun _ => (nw (Ne.symm n3)))) d_prog_146_method_6_code_106 (by decide) rfl (by decide) (Nat.le_trans E0.1 gl) (Or.inl gl) (fun h88 K89 A90 Wr91 => ?_)
  refine Walk.aloadN (pc' := 108) d_prog_146_method_6_code_107 rfl rfl ?_
  refine Walk.dup (pc' := 109) d_prog_146_method_6_code_108 rfl ?_
  refine Walk.getF (pc' := 112) (host := "") (Or.inl (wd25 hw)) Via.refl ((((F4.kq K73 (not_or.mpr ⟨(nws (slot_ne (a0 := a0) (Or.inl (wd26 hw)) (Or.inl (wd12 hw)) (by decide) (t := .int) (by decide) (t' := (.array .int)) (by decide))), (not_or.mpr ⟨(nws (slot_ne (a0 := a0) (Or.inl (wd26 hw)) (Or.inl (wd16 hw)) (by decide) (t := .int) (by decide) (t' := (.array .long)) (by decide))), (nws (slot_ne (a0 := a0) (Or.inl (wd26 hw)) (Or.inl (wd18 hw)) (by decide) (t := .int) (by decide) (t' := (.array .int)) (by decide)))⟩)⟩)).kq K75 (nw (ltne E1.lt gs))).kq K79 (nw (ltne E1.lt gt))).kq K89 (nw (ltne E1.lt gl))) d_prog_146_method_6_code_109 ?_
  refine Walk.iconst (pc' := 113) (1 : Int32) d_prog_146_method_6_code_112 rfl ?_
  refine Walk.iadd (pc' := 114) d_prog_146_method_6_code_113 ?_
  refine Walk.putF (pc' := 117) (host := "") (Or.inl (wd25 hw)) Via.refl ((((F4.kq K73 (not_or.mpr ⟨(nws (slot_ne (a0 := a0) (Or.inl (wd26 hw)) (Or.inl (wd12 hw)) (by decide) (t := .int) (by decide) (t' := (.array .int)) (by decide))), (not_or.mpr ⟨(nws (slot_ne (a0 := a0) (Or.inl (wd26 hw)) (Or.inl (wd16 hw)) (by decide) (t := .int) (by decide) (t' := (.array .long)) (by decide))), (nws (slot_ne (a0 := a0) (Or.inl (wd26 hw)) (Or.inl (wd18 hw)) (by decide) (t := .int) (by decide) (t' := (.array .int)) (by decide)))⟩)⟩)).kq K75 (nw (ltne E1.lt gs))).kq K79 (nw (ltne E1.lt gt))).kq K89 (nw (ltne E1.lt gl))) ((((E1.kq K73).kq K75).kq K79).kq K89) (Or.inl (wd26 hw)) (wd1 hw) (ty := .int) (by decide) rfl rfl d_prog_146_method_6_code_114 gz (Fw.old rfl) (fun h92 K93 F94 => ?_)
  exact Walk.ret d_prog_146_method_6_code_117 rfl ⟨⟨rfl, rfl, rfl⟩, s, t, l, _, gs, gt, gl, n1, n2, n3, ((((G1.kq K75 (nw (ltne E1.lt gs))).kq K79 (nw (ltne E1.lt gt))).kq K89 (nw (ltne E1.lt gl))).kq K93 (nws (slot_ne (a0 := a0) (Or.inl (wd12 hw)) (Or.inl (wd26 hw)) (by decide) (t := (.array .int)) (by decide) (t' := .int) (by decide)))), ((((G2.kq K75 (nw (ltne E1.lt gs))).kq K79 (nw (ltne E1.lt gt))).kq K89 (nw (ltne E1.lt gl))).kq K93 (nws (slot_ne (a0 := a0) (Or.inl (wd16 hw)) (Or.inl (wd26 hw)) (by decide) (t := (.array .long)) (by decide) (t' := .int) (by decide)))), ((((G3.kq K75 (nw (ltne E1.lt gs))).kq K79 (nw (ltne E1.lt gt))).kq K89 (nw (ltne E1.lt gl))).kq K93 (nws (slot_ne (a0 := a0) (Or.inl (wd18 hw)) (Or.inl (wd26 hw)) (by decide) (t := (.array .int)) (by decide) (t' := .int) (by decide)))), F94, (((A76.kq K79 (fun _ => (nw n1))).kq K89 (fun _ => (nw n2))).kq K93 (fun _ => (nw (gtne E1.lt gs)))), ((A80.kq K89 (fun _ => (nw n3))).kq K93 (fun _ => (nw (gtne E1.lt gt)))), (A90.kq K93 (fun _ => (nw (gtne E1.lt gl))))⟩ (fun _ q => q) (Nat.le_of_ble_eq_true rfl) (Nat.le_of_ble_eq_true rfl)
set_option maxRecDepth 65536 in
set_option maxHeartbeats 40000000 in
theorem c_set2 {Z : State} {a0 : Array Value} (hw : ∀ d ∈ tables_1, d.before a0 Z = true) {h : Heap} {Ts : TsT} {Li : LiT} (x : Addr) (k : Int32) (a b r : Int64) (hb0 : 0 < b) (hr : ((1048576 : Int64) < b ∧ r = (1048576 : Int64)) ∨ (¬ (1048576 : Int64) < b ∧ r = b)) (s t l : Addr) (f1 f2 f3 : Nat → Value) (As : Av Z h s .int 8 f1) (At : Av Z h t .long 8 f2) (Al : Av Z h l .int 8 f3) (n1 : s ≠ t) (n2 : s ≠ l) (n3 : t ≠ l) (gs : Z.heap.size ≤ s) (gt : Z.heap.size ≤ t) (gl : Z.heap.size ≤ l) (E1 : Exa Z h x "com/example/outerview/outerview/ctf/Texts") (F1 : Fld Z h x "com/example/outerview/outerview/ctf/Texts" "slots" "[I" (.ref s)) (F2 : Fld Z h x "com/example/outerview/outerview/ctf/Texts" "starts" "[J" (.ref t)) (F3 : Fld Z h x "com/example/outerview/outerview/ctf/Texts" "lengths" "[I" (.ref l)) (F4 : Fld Z h x "com/example/outerview/outerview/ctf/Texts" "held" "I" (.int 0)) (gz : Z.heap.size ≤ x) :
    Con Z (⟨"com/example/outerview/outerview/ctf/Texts", "set", "(IJJ)V"⟩ : MethodName) prog_146_method_6_code 6 none ({ frames := 3, cells := 3, slots := 24, locals := 48 } : Room) [(.ref x), (.int k), (.long a), (.long b)] h Ts Li (fun y => y = (⟨x, Jvm.RoadKit.slotOf Z "com/example/outerview/outerview/ctf/Texts" "held" "I"⟩ : Loc) ∨ y = ⟨s, 0⟩ ∨ y = ⟨t, 0⟩ ∨ y = ⟨l, 0⟩) (fun v h' Ts' Li' => (v = none ∧ Ts' = Ts ∧ Li' = Li) ∧ Fld Z h' x "com/example/outerview/outerview/ctf/Texts" "held" "I" (.int 1) ∧ Av Z h' s .int 8 (fun i => if i = 0 then .int k else f1 i) ∧ Av Z h' l .int 8 (fun i => if i = 0 then .int r.toInt32 else f3 i)) := by
  refine Con.of (ws := Fw h fun y => y = (⟨x, Jvm.RoadKit.slotOf Z "com/example/outerview/outerview/ctf/Texts" "held" "I"⟩ : Loc) ∨ y = ⟨s, 0⟩ ∨ y = ⟨t, 0⟩ ∨ y = ⟨l, 0⟩) (Ls := #[.val (.ref x), .val (.int k), .val (.long a), .second, .val (.long b), .second]) (plainFor_of_name pn1) (fun m => by simp [entryFrame, mkF, argsToLocals, cat_i, cat_j, cat_r, cat_n]) (fun E0 => ?_)
  refine Walk.aloadN (pc' := 1) d_prog_146_method_6_code_0 rfl rfl ?_
  refine Walk.getF (pc' := 4) (host := "") (Or.inl (wd25 hw)) Via.refl F4 d_prog_146_method_6_code_1 ?_
  refine Walk.ifYes (pc' := 35) d_prog_146_method_6_code_4 (XT.i0_le_t (by decide)) ?_
  refine Walk.lload (pc' := 37) d_prog_146_method_6_code_35 rfl ?_
  refine Walk.lconst (pc' := 38) (0 : Int64) d_prog_146_method_6_code_37 rfl ?_
  refine Walk.lcmp (pc' := 39) d_prog_146_method_6_code_38 ?_
  refine Walk.ifNo (pc' := 42) d_prog_146_method_6_code_39 (XT.ll_le_f hb0) ?_
  refine Walk.aloadN (pc' := 43) d_prog_146_method_6_code_42 rfl rfl ?_
  refine Walk.getF (pc' := 46) (host := "") (Or.inl (wd25 hw)) Via.refl F4 d_prog_146_method_6_code_43 ?_
  refine Walk.aloadN (pc' := 47) d_prog_146_method_6_code_46 rfl rfl ?_
  refine Walk.getF (pc' := 50) (host := "") (Or.inl (wd11 hw)) Via.refl F1 d_prog_146_method_6_code_47 ?_
  refine Walk.alen (pc' := 51) (z := (8 : Int32)) As d_prog_146_method_6_code_50 rfl ?_
  refine Walk.icYes (pc' := 69) d_prog_146_method_6_code_51 (XT.ii_ne_t (by decide)) ?_
  refine Walk.aloadN (pc' := 70) d_prog_146_method_6_code_69 rfl rfl ?_
  refine Walk.getF (pc' := 73) (host := "") (Or.inl (wd11 hw)) Via.refl F1 d_prog_146_method_6_code_70 ?_
  refine Walk.aloadN (pc' := 74) d_prog_146_method_6_code_73 rfl rfl ?_
  refine Walk.getF (pc' := 77) (host := "") (Or.inl (wd25 hw)) Via.refl F4 d_prog_146_method_6_code_74 ?_
  refine Walk.iloadN (pc' := 78) d_prog_146_method_6_code_77 rfl ?_
  refine Walk.iastore (pc' := 79) (i := 0) As d_prog_146_method_6_code_78 (by decide) rfl (by decide) gs (Fw.old (Or.inr (Or.inl rfl))) (fun h95 K96 A97 Wr98 => ?_)
  refine Walk.aloadN (pc' := 80) d_prog_146_method_6_code_79 rfl rfl ?_
  refine Walk.getF (pc' := 83) (host := "") (Or.inl (wd15 hw)) Via.refl (F2.kq K96 (nw (exa_av (E1.kq K96) (wd1 hw) A97))) d_prog_146_method_6_code_80 ?_
  refine Walk.aloadN (pc' := 84) d_prog_146_method_6_code_83 rfl rfl ?_
  refine Walk.getF (pc' := 87) (host := "") (Or.inl (wd25 hw)) Via.refl (F4.kq K96 (nw (exa_av (E1.kq K96) (wd1 hw) A97))) d_prog_146_method_6_code_84 ?_
  refine Walk.lloadN (pc' := 88) d_prog_146_method_6_code_87 rfl ?_
  refine Walk.lastore (pc' := 89) (i := 0) (At.kq K96 (fun _ => (nw (Ne.symm n1)))) d_prog_146_method_6_code_88 (by decide) rfl (by decide) gt (Fw.old (Or.inr (Or.inr (Or.inl rfl)))) (fun h99 K100 A101 Wr102 => ?_)
  refine Walk.aloadN (pc' := 90) d_prog_146_method_6_code_89 rfl rfl ?_
  refine Walk.getF (pc' := 93) (host := "") (Or.inl (wd17 hw)) Via.refl ((F3.kq K96 (nw (exa_av (E1.kq K96) (wd1 hw) A97))).kq K100 (nw (exa_av ((E1.kq K96).kq K100) (wd1 hw) A101))) d_prog_146_method_6_code_90 ?_
  refine Walk.aloadN (pc' := 94) d_prog_146_method_6_code_93 rfl rfl ?_
  refine Walk.getF (pc' := 97) (host := "") (Or.inl (wd25 hw)) Via.refl ((F4.kq K96 (nw (exa_av (E1.kq K96) (wd1 hw) A97))).kq K100 (nw (exa_av ((E1.kq K96).kq K100) (wd1 hw) A101))) d_prog_146_method_6_code_94 ?_
  refine Walk.lload (pc' := 99) d_prog_146_method_6_code_97 rfl ?_
  refine Walk.ldcJ (pc' := 102) (wd51 hw) d_prog_146_method_6_code_99 ?_
  refine Walk.callS (pc' := 105) (Wd := 2) (as := [(.long b), (.long (1048576 : Int64))]) (rest := [(.int (0 : Int32)), (.ref l)]) (wd52 hw) (wd53 hw) (wd29 hw) (wd54 hw) ((c_minL hw b (1048576 : Int64) r hr).pay (wd54 hw) (wd29 hw) (by decide) (by decide)) (hlen := lenOf pd4 rfl) (hd := d_prog_146_method_6_code_102) (hst := rfl) (hW := Nat.le_of_eq rfl) (hsz := rfl) (hc1 := Nat.le_of_ble_eq_true rfl) (hl1 := Nat.le_of_ble_eq_true rfl) (hv := Fw.upN) (kk := fun v103 h107 Ts104 Li105 q106 K108 => ?_)
  obtain ⟨rfl, rfl, rfl, rfl⟩ := q106
  show Walk _ _ _ _ _ _ _ _ _ _ _ _ _ _ 0 0 105 _ [(.long r), (.int (0 : Int32)), (.ref l)]
  refine Walk.l2i (pc' := 106) d_prog_146_method_6_code_105 ?_
  refine Walk.iastore (pc' := 107) (i := 0) ((Al.kq K96 (fun _ => (nw (Ne.symm n2)))).kq K100 (fun _ => (nw (Ne.symm n3)))) d_prog_146_method_6_code_106 (by decide) rfl (by decide) gl (Fw.old (Or.inr (Or.inr (Or.inr rfl)))) (fun h109 K110 A111 Wr112 => ?_)
  refine Walk.aloadN (pc' := 108) d_prog_146_method_6_code_107 rfl rfl ?_
  refine Walk.dup (pc' := 109) d_prog_146_method_6_code_108 rfl ?_
  refine Walk.getF (pc' := 112) (host := "") (Or.inl (wd25 hw)) Via.refl (((F4.kq K96 (nw (exa_av (E1.kq K96) (wd1 hw) A97))).kq K100 (nw (exa_av ((E1.kq K96).kq K100) (wd1 hw) A101))).kq K110 (nw (exa_av (((E1.kq K96).kq K100).kq K110) (wd1 hw) A111))) d_prog_146_method_6_code_109 ?_
  refine Walk.iconst (pc' := 113) (1 : Int32) d_prog_146_method_6_code_112 rfl ?_
  refine Walk.iadd (pc' := 114) d_prog_146_method_6_code_113 ?_
  refine Walk.putF (pc' := 117) (host := "") (Or.inl (wd25 hw)) Via.refl (((F4.kq K96 (nw (exa_av (E1.kq K96) (wd1 hw) A97))).kq K100 (nw (exa_av ((E1.kq K96).kq K100) (wd1 hw) A101))).kq K110 (nw (exa_av (((E1.kq K96).kq K100).kq K110) (wd1 hw) A111))) (((E1.kq K96).kq K100).kq K110) (Or.inl (wd26 hw)) (wd1 hw) (ty := .int) (by decide) rfl rfl d_prog_146_method_6_code_114 gz (Fw.old (Or.inl rfl)) (fun h113 K114 F115 => ?_)
  exact Walk.ret d_prog_146_method_6_code_117 rfl ⟨⟨rfl, rfl, rfl⟩, F115, (((A97.kq K100 (fun _ => (nw n1))).kq K110 (fun _ => (nw n2))).kq K114 (fun _ => (nw (Ne.symm (exa_av (E1.kq K96) (wd1 hw) A97))))), (A111.kq K114 (fun _ => (nw (Ne.symm (exa_av (((E1.kq K96).kq K100).kq K110) (wd1 hw) A111)))))⟩ (fun _ q => q) (Nat.le_of_ble_eq_true rfl) (Nat.le_of_ble_eq_true rfl)
set_option maxRecDepth 65536 in
set_option maxHeartbeats 40000000 in
theorem c_foot0 {Z : State} {a0 : Array Value} (hw : ∀ d ∈ tables_1, d.before a0 Z = true) {h : Heap} {Ts : TsT} {Li : LiT} (x s : Addr) (f : Nat → Value) (As : Av Z h s .int 0 f) (F1 : Fld Z h x "com/example/outerview/outerview/ctf/Texts" "slots" "[I" (.ref s)) :
    Con Z (⟨"com/example/outerview/outerview/ctf/Texts", "footprint", "()J"⟩ : MethodName) prog_146_method_5_code 1 (some .long) ({ frames := 0, cells := 0, slots := 0, locals := 0 } : Room) [(.ref x)] h Ts Li (noW) (Pu (some (.long 0)) h Ts Li) := by
  refine Con.of (ws := Fw h noW) (Ls := #[.val (.ref x)]) (plainFor_of_name pn1) (fun m => by first | rfl | (simp [entryFrame, mkF, argsToLocals, Value.category]; done)) (fun E0 => ?_)
  refine Walk.aloadN (pc' := 1) d_prog_146_method_5_code_0 rfl rfl ?_
  refine Walk.getF (pc' := 4) (host := "") (Or.inl (wd11 hw)) Via.refl F1 d_prog_146_method_5_code_1 ?_
  refine Walk.alen (pc' := 5) (z := (0 : Int32)) As d_prog_146_method_5_code_4 rfl ?_
  refine Walk.i2l (pc' := 6) d_prog_146_method_5_code_5 ?_
  refine Walk.ldcJ (pc' := 9) (wd60 hw) d_prog_146_method_5_code_6 ?_
  refine Walk.lmul (pc' := 10) d_prog_146_method_5_code_9 ?_
  exact Walk.lret d_prog_146_method_5_code_10 rfl ⟨rfl, rfl, rfl, rfl⟩ (fun _ q => q) (Nat.le_of_ble_eq_true rfl) (Nat.le_of_ble_eq_true rfl)
set_option maxRecDepth 65536 in
set_option maxHeartbeats 40000000 in
theorem c_foot8 {Z : State} {a0 : Array Value} (hw : ∀ d ∈ tables_1, d.before a0 Z = true) {h : Heap} {Ts : TsT} {Li : LiT} (x s : Addr) (f : Nat → Value) (As : Av Z h s .int 8 f) (F1 : Fld Z h x "com/example/outerview/outerview/ctf/Texts" "slots" "[I" (.ref s)) :
    Con Z (⟨"com/example/outerview/outerview/ctf/Texts", "footprint", "()J"⟩ : MethodName) prog_146_method_5_code 1 (some .long) ({ frames := 0, cells := 0, slots := 0, locals := 0 } : Room) [(.ref x)] h Ts Li (noW) (Pu (some (.long 128)) h Ts Li) := by
  refine Con.of (ws := Fw h noW) (Ls := #[.val (.ref x)]) (plainFor_of_name pn1) (fun m => by first | rfl | (simp [entryFrame, mkF, argsToLocals, Value.category]; done)) (fun E0 => ?_)
  refine Walk.aloadN (pc' := 1) d_prog_146_method_5_code_0 rfl rfl ?_
  refine Walk.getF (pc' := 4) (host := "") (Or.inl (wd11 hw)) Via.refl F1 d_prog_146_method_5_code_1 ?_
  refine Walk.alen (pc' := 5) (z := (8 : Int32)) As d_prog_146_method_5_code_4 rfl ?_
  refine Walk.i2l (pc' := 6) d_prog_146_method_5_code_5 ?_
  refine Walk.ldcJ (pc' := 9) (wd60 hw) d_prog_146_method_5_code_6 ?_
  refine Walk.lmul (pc' := 10) d_prog_146_method_5_code_9 ?_
  exact Walk.lret d_prog_146_method_5_code_10 rfl ⟨rfl, rfl, rfl, rfl⟩ (fun _ q => q) (Nat.le_of_ble_eq_true rfl) (Nat.le_of_ble_eq_true rfl)
set_option maxRecDepth 65536 in
set_option maxHeartbeats 40000000 in
theorem c_take {Z : State} {a0 : Array Value} (hw : ∀ d ∈ tables_1, d.before a0 Z = true) {h : Heap} {Ts : TsT} {Li : LiT} (x o s t l : Addr) (v1 v2 v3 : Value) (k j : Int32) (ni nl : Addr) (S1 : Sta Z Z.heap "com/example/outerview/outerview/ctf/Texts" "NO_INTS" "[I" (.ref ni)) (S2 : Sta Z Z.heap "com/example/outerview/outerview/ctf/Texts" "NO_LONGS" "[J" (.ref nl)) (hxo : x ≠ o) (E1 : Exa Z h x "com/example/outerview/outerview/ctf/Texts") (E2 : Exa Z h o "com/example/outerview/outerview/ctf/Texts") (F1 : Fld Z h x "com/example/outerview/outerview/ctf/Texts" "slots" "[I" v1) (F2 : Fld Z h x "com/example/outerview/outerview/ctf/Texts" "starts" "[J" v2) (F3 : Fld Z h x "com/example/outerview/outerview/ctf/Texts" "lengths" "[I" v3) (F4 : Fld Z h x "com/example/outerview/outerview/ctf/Texts" "held" "I" (.int k)) (G1 : Fld Z h o "com/example/outerview/outerview/ctf/Texts" "slots" "[I" (.ref s)) (G2 : Fld Z h o "com/example/outerview/outerview/ctf/Texts" "starts" "[J" (.ref t)) (G3 : Fld Z h o "com/example/outerview/outerview/ctf/Texts" "lengths" "[I" (.ref l)) (G4 : Fld Z h o "com/example/outerview/outerview/ctf/Texts" "held" "I" (.int j)) (gx : Z.heap.size ≤ x) (go : Z.heap.size ≤ o) :
    Con Z (⟨"com/example/outerview/outerview/ctf/Texts", "take", "(Lcom/example/outerview/outerview/ctf/Texts;)V"⟩ : MethodName) prog_146_method_4_code 2 none ({ frames := 0, cells := 0, slots := 0, locals := 0 } : Room) [(.ref x), (.ref o)] h Ts Li (fun y => y.base = x ∨ y.base = o) (fun v h' Ts' Li' => (v = none ∧ Ts' = Ts ∧ Li' = Li) ∧ Fld Z h' x "com/example/outerview/outerview/ctf/Texts" "slots" "[I" (.ref s) ∧ Fld Z h' x "com/example/outerview/outerview/ctf/Texts" "starts" "[J" (.ref t) ∧ Fld Z h' x "com/example/outerview/outerview/ctf/Texts" "lengths" "[I" (.ref l) ∧ Fld Z h' x "com/example/outerview/outerview/ctf/Texts" "held" "I" (.int 0) ∧ Fld Z h' o "com/example/outerview/outerview/ctf/Texts" "slots" "[I" (.ref ni) ∧ Fld Z h' o "com/example/outerview/outerview/ctf/Texts" "starts" "[J" (.ref nl) ∧ Fld Z h' o "com/example/outerview/outerview/ctf/Texts" "lengths" "[I" (.ref ni) ∧ Fld Z h' o "com/example/outerview/outerview/ctf/Texts" "held" "I" (.int 0)) := by
  refine Con.of (ws := Fw h fun y => y.base = x ∨ y.base = o) (Ls := #[.val (.ref x), .val (.ref o)]) (plainFor_of_name pn1) (fun m => by first | rfl | (simp [entryFrame, mkF, argsToLocals, Value.category]; done)) (fun E0 => ?_)
  refine Walk.aloadN (pc' := 1) d_prog_146_method_4_code_0 rfl rfl ?_
  refine Walk.aloadN (pc' := 2) d_prog_146_method_4_code_1 rfl rfl ?_
  refine Walk.getF (pc' := 5) (host := "") (Or.inl (wd11 hw)) Via.refl G1 d_prog_146_method_4_code_2 ?_
  refine Walk.putF (pc' := 8) (host := "") (Or.inl (wd11 hw)) Via.refl F1 E1 (Or.inl (wd12 hw)) (wd1 hw) (ty := (.array .int)) (by decide) rfl rfl d_prog_146_method_4_code_5 gx (Fw.old (Or.inl rfl)) (fun h116 K117 F118 => ?_)
  refine Walk.aloadN (pc' := 9) d_prog_146_method_4_code_8 rfl rfl ?_
  refine Walk.aloadN (pc' := 10) d_prog_146_method_4_code_9 rfl rfl ?_
  refine Walk.getF (pc' := 13) (host := "") (Or.inl (wd15 hw)) Via.refl (G2.kq K117 (nw (Ne.symm hxo))) d_prog_146_method_4_code_10 ?_
  refine Walk.putF (pc' := 16) (host := "") (Or.inl (wd15 hw)) Via.refl (F2.kq K117 (nws (slot_ne (a0 := a0) (Or.inl (wd16 hw)) (Or.inl (wd12 hw)) (by decide) (t := (.array .long)) (by decide) (t' := (.array .int)) (by decide)))) (E1.kq K117) (Or.inl (wd16 hw)) (wd1 hw) (ty := (.array .long)) (by decide) rfl rfl d_prog_146_method_4_code_13 gx (Fw.old (Or.inl rfl)) (fun h119 K120 F121 => ?_)
  refine Walk.aloadN (pc' := 17) d_prog_146_method_4_code_16 rfl rfl ?_
  refine Walk.aloadN (pc' := 18) d_prog_146_method_4_code_17 rfl rfl ?_
  refine Walk.getF (pc' := 21) (host := "") (Or.inl (wd17 hw)) Via.refl ((G3.kq K117 (nw (Ne.symm hxo))).kq K120 (nw (Ne.symm hxo))) d_prog_146_method_4_code_18 ?_
  refine Walk.putF (pc' := 24) (host := "") (Or.inl (wd17 hw)) Via.refl ((F3.kq K117 (nws (slot_ne (a0 := a0) (Or.inl (wd18 hw)) (Or.inl (wd12 hw)) (by decide) (t := (.array .int)) (by decide) (t' := (.array .int)) (by decide)))).kq K120 (nws (slot_ne (a0 := a0) (Or.inl (wd18 hw)) (Or.inl (wd16 hw)) (by decide) (t := (.array .int)) (by decide) (t' := (.array .long)) (by decide)))) ((E1.kq K117).kq K120) (Or.inl (wd18 hw)) (wd1 hw) (ty := (.array .int)) (by decide) rfl rfl d_prog_146_method_4_code_21 gx (Fw.old (Or.inl rfl)) (fun h122 K123 F124 => ?_)
  refine Walk.aloadN (pc' := 25) d_prog_146_method_4_code_24 rfl rfl ?_
  refine Walk.iconst (pc' := 26) (0 : Int32) d_prog_146_method_4_code_25 rfl ?_
  refine Walk.putF (pc' := 29) (host := "") (Or.inl (wd25 hw)) Via.refl (((F4.kq K117 (nws (slot_ne (a0 := a0) (Or.inl (wd26 hw)) (Or.inl (wd12 hw)) (by decide) (t := .int) (by decide) (t' := (.array .int)) (by decide)))).kq K120 (nws (slot_ne (a0 := a0) (Or.inl (wd26 hw)) (Or.inl (wd16 hw)) (by decide) (t := .int) (by decide) (t' := (.array .long)) (by decide)))).kq K123 (nws (slot_ne (a0 := a0) (Or.inl (wd26 hw)) (Or.inl (wd18 hw)) (by decide) (t := .int) (by decide) (t' := (.array .int)) (by decide)))) (((E1.kq K117).kq K120).kq K123) (Or.inl (wd26 hw)) (wd1 hw) (ty := .int) (by decide) rfl rfl d_prog_146_method_4_code_26 gx (Fw.old (Or.inl rfl)) (fun h125 K126 F127 => ?_)
  refine Walk.aloadN (pc' := 30) d_prog_146_method_4_code_29 rfl rfl ?_
  refine Walk.getS (pc' := 33) (wd9 hw) Via.refl S1 d_prog_146_method_4_code_30 ?_
  refine Walk.putF (pc' := 36) (host := "") (Or.inl (wd11 hw)) Via.refl ((((G1.kq K117 (nw (Ne.symm hxo))).kq K120 (nw (Ne.symm hxo))).kq K123 (nw (Ne.symm hxo))).kq K126 (nw (Ne.symm hxo))) ((((E2.kq K117).kq K120).kq K123).kq K126) (Or.inl (wd12 hw)) (wd1 hw) (ty := (.array .int)) (by decide) rfl rfl d_prog_146_method_4_code_33 go (Fw.old (Or.inr rfl)) (fun h128 K129 F130 => ?_)
  refine Walk.aloadN (pc' := 37) d_prog_146_method_4_code_36 rfl rfl ?_
  refine Walk.getS (pc' := 40) (wd13 hw) Via.refl S2 d_prog_146_method_4_code_37 ?_
  refine Walk.putF (pc' := 43) (host := "") (Or.inl (wd15 hw)) Via.refl (((((G2.kq K117 (nw (Ne.symm hxo))).kq K120 (nw (Ne.symm hxo))).kq K123 (nw (Ne.symm hxo))).kq K126 (nw (Ne.symm hxo))).kq K129 (nws (slot_ne (a0 := a0) (Or.inl (wd16 hw)) (Or.inl (wd12 hw)) (by decide) (t := (.array .long)) (by decide) (t' := (.array .int)) (by decide)))) (((((E2.kq K117).kq K120).kq K123).kq K126).kq K129) (Or.inl (wd16 hw)) (wd1 hw) (ty := (.array .long)) (by decide) rfl rfl d_prog_146_method_4_code_40 go (Fw.old (Or.inr rfl)) (fun h131 K132 F133 => ?_)
  refine Walk.aloadN (pc' := 44) d_prog_146_method_4_code_43 rfl rfl ?_
  refine Walk.getS (pc' := 47) (wd9 hw) Via.refl S1 d_prog_146_method_4_code_44 ?_
  refine Walk.putF (pc' := 50) (host := "") (Or.inl (wd17 hw)) Via.refl ((((((G3.kq K117 (nw (Ne.symm hxo))).kq K120 (nw (Ne.symm hxo))).kq K123 (nw (Ne.symm hxo))).kq K126 (nw (Ne.symm hxo))).kq K129 (nws (slot_ne (a0 := a0) (Or.inl (wd18 hw)) (Or.inl (wd12 hw)) (by decide) (t := (.array .int)) (by decide) (t' := (.array .int)) (by decide)))).kq K132 (nws (slot_ne (a0 := a0) (Or.inl (wd18 hw)) (Or.inl (wd16 hw)) (by decide) (t := (.array .int)) (by decide) (t' := (.array .long)) (by decide)))) ((((((E2.kq K117).kq K120).kq K123).kq K126).kq K129).kq K132) (Or.inl (wd18 hw)) (wd1 hw) (ty := (.array .int)) (by decide) rfl rfl d_prog_146_method_4_code_47 go (Fw.old (Or.inr rfl)) (fun h134 K135 F136 => ?_)
  refine Walk.aloadN (pc' := 51) d_prog_146_method_4_code_50 rfl rfl ?_
  refine Walk.iconst (pc' := 52) (0 : Int32) d_prog_146_method_4_code_51 rfl ?_
  refine Walk.putF (pc' := 55) (host := "") (Or.inl (wd25 hw)) Via.refl (((((((G4.kq K117 (nw (Ne.symm hxo))).kq K120 (nw (Ne.symm hxo))).kq K123 (nw (Ne.symm hxo))).kq K126 (nw (Ne.symm hxo))).kq K129 (nws (slot_ne (a0 := a0) (Or.inl (wd26 hw)) (Or.inl (wd12 hw)) (by decide) (t := .int) (by decide) (t' := (.array .int)) (by decide)))).kq K132 (nws (slot_ne (a0 := a0) (Or.inl (wd26 hw)) (Or.inl (wd16 hw)) (by decide) (t := .int) (by decide) (t' := (.array .long)) (by decide)))).kq K135 (nws (slot_ne (a0 := a0) (Or.inl (wd26 hw)) (Or.inl (wd18 hw)) (by decide) (t := .int) (by decide) (t' := (.array .int)) (by decide)))) (((((((E2.kq K117).kq K120).kq K123).kq K126).kq K129).kq K132).kq K135) (Or.inl (wd26 hw)) (wd1 hw) (ty := .int) (by decide) rfl rfl d_prog_146_method_4_code_52 go (Fw.old (Or.inr rfl)) (fun h137 K138 F139 => ?_)
  exact Walk.ret d_prog_146_method_4_code_55 rfl ⟨⟨rfl, rfl, rfl⟩, (((((((F118.kq K120 (nws (slot_ne (a0 := a0) (Or.inl (wd12 hw)) (Or.inl (wd16 hw)) (by decide) (t := (.array .int)) (by decide) (t' := (.array .long)) (by decide)))).kq K123 (nws (slot_ne (a0 := a0) (Or.inl (wd12 hw)) (Or.inl (wd18 hw)) (by decide) (t := (.array .int)) (by decide) (t' := (.array .int)) (by decide)))).kq K126 (nws (slot_ne (a0 := a0) (Or.inl (wd12 hw)) (Or.inl (wd26 hw)) (by decide) (t := (.array .int)) (by decide) (t' := .int) (by decide)))).kq K129 (nw hxo)).kq K132 (nw hxo)).kq K135 (nw hxo)).kq K138 (nw hxo)), ((((((F121.kq K123 (nws (slot_ne (a0 := a0) (Or.inl (wd16 hw)) (Or.inl (wd18 hw)) (by decide) (t := (.array .long)) (by decide) (t' := (.array .int)) (by decide)))).kq K126 (nws (slot_ne (a0 := a0) (Or.inl (wd16 hw)) (Or.inl (wd26 hw)) (by decide) (t := (.array .long)) (by decide) (t' := .int) (by decide)))).kq K129 (nw hxo)).kq K132 (nw hxo)).kq K135 (nw hxo)).kq K138 (nw hxo)), (((((F124.kq K126 (nws (slot_ne (a0 := a0) (Or.inl (wd18 hw)) (Or.inl (wd26 hw)) (by decide) (t := (.array .int)) (by decide) (t' := .int) (by decide)))).kq K129 (nw hxo)).kq K132 (nw hxo)).kq K135 (nw hxo)).kq K138 (nw hxo)), ((((F127.kq K129 (nw hxo)).kq K132 (nw hxo)).kq K135 (nw hxo)).kq K138 (nw hxo)), (((F130.kq K132 (nws (slot_ne (a0 := a0) (Or.inl (wd12 hw)) (Or.inl (wd16 hw)) (by decide) (t := (.array .int)) (by decide) (t' := (.array .long)) (by decide)))).kq K135 (nws (slot_ne (a0 := a0) (Or.inl (wd12 hw)) (Or.inl (wd18 hw)) (by decide) (t := (.array .int)) (by decide) (t' := (.array .int)) (by decide)))).kq K138 (nws (slot_ne (a0 := a0) (Or.inl (wd12 hw)) (Or.inl (wd26 hw)) (by decide) (t := (.array .int)) (by decide) (t' := .int) (by decide)))), ((F133.kq K135 (nws (slot_ne (a0 := a0) (Or.inl (wd16 hw)) (Or.inl (wd18 hw)) (by decide) (t := (.array .long)) (by decide) (t' := (.array .int)) (by decide)))).kq K138 (nws (slot_ne (a0 := a0) (Or.inl (wd16 hw)) (Or.inl (wd26 hw)) (by decide) (t := (.array .long)) (by decide) (t' := .int) (by decide)))), (F136.kq K138 (nws (slot_ne (a0 := a0) (Or.inl (wd18 hw)) (Or.inl (wd26 hw)) (by decide) (t := (.array .int)) (by decide) (t' := .int) (by decide)))), F139⟩ (fun _ q => q) (Nat.le_of_ble_eq_true rfl) (Nat.le_of_ble_eq_true rfl)
set_option maxRecDepth 65536 in
set_option maxHeartbeats 40000000 in
theorem c_range {Z : State} {a0 : Array Value} (hw : ∀ d ∈ tables_1, d.before a0 Z = true) {h : Heap} {Ts : TsT} {Li : LiT} (n k : Int32) (h1 : ¬ k < 0) (h2 : ¬ n < k) :
    Con Z (⟨"java/util/Arrays", "rangeCheck", "(III)V"⟩ : MethodName) jdk_65_method_30_code 3 none ({ frames := 0, cells := 0, slots := 0, locals := 0 } : Room) [(.int n), (.int (0 : Int32)), (.int k)] h Ts Li (noW) (Pu (none) h Ts Li) := by
  refine Con.of (ws := Fw h noW) (Ls := #[.val (.int n), .val (.int (0 : Int32)), .val (.int k)]) (plainFor_of_name pn0) (fun m => by first | rfl | (simp [entryFrame, mkF, argsToLocals, Value.category]; done)) (fun E0 => ?_)
  refine Walk.iloadN (pc' := 1) d_jdk_65_method_30_code_0 rfl ?_
  refine Walk.iloadN (pc' := 2) d_jdk_65_method_30_code_1 rfl ?_
  refine Walk.icYes (pc' := 46) d_jdk_65_method_30_code_2 (XT.ii_le_t h1) ?_
  refine Walk.iloadN (pc' := 47) d_jdk_65_method_30_code_46 rfl ?_
  refine Walk.ifYes (pc' := 59) d_jdk_65_method_30_code_47 (XT.i0_ge_t (by decide)) ?_
  refine Walk.iloadN (pc' := 60) d_jdk_65_method_30_code_59 rfl ?_
  refine Walk.iloadN (pc' := 61) d_jdk_65_method_30_code_60 rfl ?_
  refine Walk.icYes (pc' := 73) d_jdk_65_method_30_code_61 (XT.ii_le_t h2) ?_
  exact Walk.ret d_jdk_65_method_30_code_73 rfl ⟨rfl, rfl, rfl, rfl⟩ (fun _ q => q) (Nat.le_of_ble_eq_true rfl) (Nat.le_of_ble_eq_true rfl)
set_option maxRecDepth 65536 in
set_option maxHeartbeats 40000000 in
theorem c_bs00 {Z : State} {a0 : Array Value} (hw : ∀ d ∈ tables_1, d.before a0 Z = true) {h : Heap} {Ts : TsT} {Li : LiT} (s : Addr) (k : Int32) :
    Con Z (⟨"java/util/Arrays", "binarySearch0", "([IIII)I"⟩ : MethodName) jdk_65_method_59_code 8 (some .int) ({ frames := 0, cells := 0, slots := 0, locals := 0 } : Room) [(.ref s), (.int (0 : Int32)), (.int (0 : Int32)), (.int k)] h Ts Li (noW) (Pu (some (.int (-1))) h Ts Li) := by
  refine Con.of (ws := Fw h noW) (Ls := #[.val (.ref s), .val (.int (0 : Int32)), .val (.int (0 : Int32)), .val (.int k), .unset, .unset, .unset, .unset]) (plainFor_of_name pn0) (fun m => by first | rfl | (simp [entryFrame, mkF, argsToLocals, Value.category]; done)) (fun E0 => ?_)
  refine Walk.iloadN (pc' := 1) d_jdk_65_method_59_code_0 rfl ?_
  refine Walk.istore (pc' := 3) (Ls' := #[.val (.ref s), .val (.int (0 : Int32)), .val (.int (0 : Int32)), .val (.int k), .val (.int (0 : Int32)), .unset, .unset, .unset]) d_jdk_65_method_59_code_1 rfl ?_
  refine Walk.iloadN (pc' := 4) d_jdk_65_method_59_code_3 rfl ?_
  refine Walk.iconst (pc' := 5) (1 : Int32) d_jdk_65_method_59_code_4 rfl ?_
  refine Walk.isub (pc' := 6) d_jdk_65_method_59_code_5 ?_
  refine Walk.istore (pc' := 8) (Ls' := #[.val (.ref s), .val (.int (0 : Int32)), .val (.int (0 : Int32)), .val (.int k), .val (.int (0 : Int32)), .val (.int ((0 : Int32) - (1 : Int32))), .unset, .unset]) d_jdk_65_method_59_code_6 rfl ?_
  refine Walk.iload (pc' := 10) d_jdk_65_method_59_code_8 rfl ?_
  refine Walk.iload (pc' := 12) d_jdk_65_method_59_code_10 rfl ?_
  refine Walk.icYes (pc' := 66) d_jdk_65_method_59_code_12 (XT.ii_gt_t (by decide)) ?_
  refine Walk.iload (pc' := 68) d_jdk_65_method_59_code_66 rfl ?_
  refine Walk.iconst (pc' := 69) (1 : Int32) d_jdk_65_method_59_code_68 rfl ?_
  refine Walk.iadd (pc' := 70) d_jdk_65_method_59_code_69 ?_
  refine Walk.ineg (pc' := 71) d_jdk_65_method_59_code_70 ?_
  exact Walk.iret d_jdk_65_method_59_code_71 rfl ⟨rfl, rfl, rfl, rfl⟩ (fun _ q => q) (Nat.le_of_ble_eq_true rfl) (Nat.le_of_ble_eq_true rfl)
set_option maxRecDepth 65536 in
set_option maxHeartbeats 40000000 in
theorem c_bs01 {Z : State} {a0 : Array Value} (hw : ∀ d ∈ tables_1, d.before a0 Z = true) {h : Heap} {Ts : TsT} {Li : LiT} (s : Addr) (k : Int32) (f : Nat → Value) (As : Av Z h s .int 8 f) (hf : f 0 = .int k) :
    Con Z (⟨"java/util/Arrays", "binarySearch0", "([IIII)I"⟩ : MethodName) jdk_65_method_59_code 8 (some .int) ({ frames := 0, cells := 0, slots := 0, locals := 0 } : Room) [(.ref s), (.int (0 : Int32)), (.int (1 : Int32)), (.int k)] h Ts Li (noW) (Pu (some (.int 0)) h Ts Li) := by
  refine Con.of (ws := Fw h noW) (Ls := #[.val (.ref s), .val (.int (0 : Int32)), .val (.int (1 : Int32)), .val (.int k), .unset, .unset, .unset, .unset]) (plainFor_of_name pn0) (fun m => by first | rfl | (simp [entryFrame, mkF, argsToLocals, Value.category]; done)) (fun E0 => ?_)
  refine Walk.iloadN (pc' := 1) d_jdk_65_method_59_code_0 rfl ?_
  refine Walk.istore (pc' := 3) (Ls' := #[.val (.ref s), .val (.int (0 : Int32)), .val (.int (1 : Int32)), .val (.int k), .val (.int (0 : Int32)), .unset, .unset, .unset]) d_jdk_65_method_59_code_1 rfl ?_
  refine Walk.iloadN (pc' := 4) d_jdk_65_method_59_code_3 rfl ?_
  refine Walk.iconst (pc' := 5) (1 : Int32) d_jdk_65_method_59_code_4 rfl ?_
  refine Walk.isub (pc' := 6) d_jdk_65_method_59_code_5 ?_
  refine Walk.istore (pc' := 8) (Ls' := #[.val (.ref s), .val (.int (0 : Int32)), .val (.int (1 : Int32)), .val (.int k), .val (.int (0 : Int32)), .val (.int ((1 : Int32) - (1 : Int32))), .unset, .unset]) d_jdk_65_method_59_code_6 rfl ?_
  refine Walk.iload (pc' := 10) d_jdk_65_method_59_code_8 rfl ?_
  refine Walk.iload (pc' := 12) d_jdk_65_method_59_code_10 rfl ?_
  refine Walk.icNo (pc' := 15) d_jdk_65_method_59_code_12 (XT.ii_gt_f (by decide)) ?_
  refine Walk.iload (pc' := 17) d_jdk_65_method_59_code_15 rfl ?_
  refine Walk.iload (pc' := 19) d_jdk_65_method_59_code_17 rfl ?_
  refine Walk.iadd (pc' := 20) d_jdk_65_method_59_code_19 ?_
  refine Walk.iconst (pc' := 21) (1 : Int32) d_jdk_65_method_59_code_20 rfl ?_
  refine Walk.iushr (pc' := 22) d_jdk_65_method_59_code_21 ?_
  refine Walk.istore (pc' := 24) (Ls' := #[.val (.ref s), .val (.int (0 : Int32)), .val (.int (1 : Int32)), .val (.int k), .val (.int (0 : Int32)), .val (.int ((1 : Int32) - (1 : Int32))), .val (.int (XT.ushr ((0 : Int32) + ((1 : Int32) - (1 : Int32))) (1 : Int32))), .unset]) d_jdk_65_method_59_code_22 rfl ?_
  refine Walk.aloadN (pc' := 25) d_jdk_65_method_59_code_24 rfl rfl ?_
  refine Walk.iload (pc' := 27) d_jdk_65_method_59_code_25 rfl ?_
  refine Walk.iaload (pc' := 28) (i := 0) As d_jdk_65_method_59_code_27 (by decide) rfl (by decide) hf ?_
  refine Walk.istore (pc' := 30) (Ls' := #[.val (.ref s), .val (.int (0 : Int32)), .val (.int (1 : Int32)), .val (.int k), .val (.int (0 : Int32)), .val (.int ((1 : Int32) - (1 : Int32))), .val (.int (XT.ushr ((0 : Int32) + ((1 : Int32) - (1 : Int32))) (1 : Int32))), .val (.int k)]) d_jdk_65_method_59_code_28 rfl ?_
  refine Walk.iload (pc' := 32) d_jdk_65_method_59_code_30 rfl ?_
  refine Walk.iloadN (pc' := 33) d_jdk_65_method_59_code_32 rfl ?_
  refine Walk.icYes (pc' := 45) d_jdk_65_method_59_code_33 (XT.ii_ge_t (fun q => absurd q Int32.lt_irrefl)) ?_
  refine Walk.iload (pc' := 47) d_jdk_65_method_59_code_45 rfl ?_
  refine Walk.iloadN (pc' := 48) d_jdk_65_method_59_code_47 rfl ?_
  refine Walk.icYes (pc' := 60) d_jdk_65_method_59_code_48 (XT.ii_le_t (fun q => absurd q Int32.lt_irrefl)) ?_
  refine Walk.iload (pc' := 62) d_jdk_65_method_59_code_60 rfl ?_
  exact Walk.iret d_jdk_65_method_59_code_62 rfl ⟨rfl, rfl, rfl, rfl⟩ (fun _ q => q) (Nat.le_of_ble_eq_true rfl) (Nat.le_of_ble_eq_true rfl)
set_option maxRecDepth 65536 in
set_option maxHeartbeats 40000000 in
theorem c_bs0 {Z : State} {a0 : Array Value} (hw : ∀ d ∈ tables_1, d.before a0 Z = true) {h : Heap} {Ts : TsT} {Li : LiT} (s : Addr) (k : Int32) (f : Nat → Value) (n : Nat) (As : Av Z h s .int n f) :
    Con Z (⟨"java/util/Arrays", "binarySearch", "([IIII)I"⟩ : MethodName) jdk_65_method_58_code 4 (some .int) ({ frames := 1, cells := 0, slots := 0, locals := 19 } : Room) [(.ref s), (.int (0 : Int32)), (.int (0 : Int32)), (.int k)] h Ts Li (noW) (Pu (some (.int (-1))) h Ts Li) := by
  refine Con.of (ws := Fw h noW) (Ls := #[.val (.ref s), .val (.int (0 : Int32)), .val (.int (0 : Int32)), .val (.int k)]) (plainFor_of_name pn0) (fun m => by first | rfl | (simp [entryFrame, mkF, argsToLocals, Value.category]; done)) (fun E0 => ?_)
  refine Walk.aloadN (pc' := 1) d_jdk_65_method_58_code_0 rfl rfl ?_
  refine Walk.alen (pc' := 2) (z := (Int32.ofNat n)) As d_jdk_65_method_58_code_1 rfl ?_
  refine Walk.iloadN (pc' := 3) d_jdk_65_method_58_code_2 rfl ?_
  refine Walk.iloadN (pc' := 4) d_jdk_65_method_58_code_3 rfl ?_
  refine Walk.callS (pc' := 7) (Wd := 0) (as := [(.int (Int32.ofNat n)), (.int (0 : Int32)), (.int (0 : Int32))]) (rest := []) (wd74 hw) (wd75 hw) (wd37 hw) (wd76 hw) ((c_range hw (Int32.ofNat n) 0 (by decide) (n32_nn (by obtain ⟨_, _, _, q, _⟩ := As; exact q))).pay (wd76 hw) (wd37 hw) (by decide) (by decide)) (hlen := lenOf pd5 rfl) (hd := d_jdk_65_method_58_code_4) (hst := rfl) (hW := Nat.le_of_eq rfl) (hsz := rfl) (hc1 := Nat.le_of_ble_eq_true rfl) (hl1 := Nat.le_of_ble_eq_true rfl) (hv := Fw.upN) (kk := fun v140 h144 Ts141 Li142 q143 K145 => ?_)
  obtain ⟨rfl, rfl, rfl, rfl⟩ := q143
  show Walk _ _ _ _ _ _ _ _ _ _ _ _ _ _ 0 0 7 _ []
  refine Walk.aloadN (pc' := 8) d_jdk_65_method_58_code_7 rfl rfl ?_
  refine Walk.iloadN (pc' := 9) d_jdk_65_method_58_code_8 rfl ?_
  refine Walk.iloadN (pc' := 10) d_jdk_65_method_58_code_9 rfl ?_
  refine Walk.iloadN (pc' := 11) d_jdk_65_method_58_code_10 rfl ?_
  refine Walk.callS (pc' := 14) (Wd := 0) (as := [(.ref s), (.int (0 : Int32)), (.int (0 : Int32)), (.int k)]) (rest := []) (wd77 hw) (wd78 hw) (wd37 hw) (wd79 hw) ((c_bs00 hw s k).pay (wd79 hw) (wd37 hw) (by decide) (by decide)) (hlen := lenOf pd6 rfl) (hd := d_jdk_65_method_58_code_11) (hst := rfl) (hW := Nat.le_of_eq rfl) (hsz := rfl) (hc1 := Nat.le_of_ble_eq_true rfl) (hl1 := Nat.le_of_ble_eq_true rfl) (hv := Fw.upN) (kk := fun v146 h150 Ts147 Li148 q149 K151 => ?_)
  obtain ⟨rfl, rfl, rfl, rfl⟩ := q149
  show Walk _ _ _ _ _ _ _ _ _ _ _ _ _ _ 0 0 14 _ [(.int (-1 : Int32))]
  exact Walk.iret d_jdk_65_method_58_code_14 rfl ⟨rfl, rfl, rfl, rfl⟩ (fun _ q => q) (Nat.le_of_ble_eq_true rfl) (Nat.le_of_ble_eq_true rfl)
set_option maxRecDepth 65536 in
set_option maxHeartbeats 40000000 in
theorem c_bs1 {Z : State} {a0 : Array Value} (hw : ∀ d ∈ tables_1, d.before a0 Z = true) {h : Heap} {Ts : TsT} {Li : LiT} (s : Addr) (k : Int32) (f : Nat → Value) (As : Av Z h s .int 8 f) (hf : f 0 = .int k) :
    Con Z (⟨"java/util/Arrays", "binarySearch", "([IIII)I"⟩ : MethodName) jdk_65_method_58_code 4 (some .int) ({ frames := 1, cells := 0, slots := 0, locals := 19 } : Room) [(.ref s), (.int (0 : Int32)), (.int (1 : Int32)), (.int k)] h Ts Li (noW) (Pu (some (.int 0)) h Ts Li) := by
  refine Con.of (ws := Fw h noW) (Ls := #[.val (.ref s), .val (.int (0 : Int32)), .val (.int (1 : Int32)), .val (.int k)]) (plainFor_of_name pn0) (fun m => by first | rfl | (simp [entryFrame, mkF, argsToLocals, Value.category]; done)) (fun E0 => ?_)
  refine Walk.aloadN (pc' := 1) d_jdk_65_method_58_code_0 rfl rfl ?_
  refine Walk.alen (pc' := 2) (z := (8 : Int32)) As d_jdk_65_method_58_code_1 rfl ?_
  refine Walk.iloadN (pc' := 3) d_jdk_65_method_58_code_2 rfl ?_
  refine Walk.iloadN (pc' := 4) d_jdk_65_method_58_code_3 rfl ?_
  refine Walk.callS (pc' := 7) (Wd := 0) (as := [(.int (8 : Int32)), (.int (0 : Int32)), (.int (1 : Int32))]) (rest := []) (wd74 hw) (wd75 hw) (wd37 hw) (wd76 hw) ((c_range hw 8 1 (by decide) (by decide)).pay (wd76 hw) (wd37 hw) (by decide) (by decide)) (hlen := lenOf pd5 rfl) (hd := d_jdk_65_method_58_code_4) (hst := rfl) (hW := Nat.le_of_eq rfl) (hsz := rfl) (hc1 := Nat.le_of_ble_eq_true rfl) (hl1 := Nat.le_of_ble_eq_true rfl) (hv := Fw.upN) (kk := fun v152 h156 Ts153 Li154 q155 K157 => ?_)
  obtain ⟨rfl, rfl, rfl, rfl⟩ := q155
  show Walk _ _ _ _ _ _ _ _ _ _ _ _ _ _ 0 0 7 _ []
  refine Walk.aloadN (pc' := 8) d_jdk_65_method_58_code_7 rfl rfl ?_
  refine Walk.iloadN (pc' := 9) d_jdk_65_method_58_code_8 rfl ?_
  refine Walk.iloadN (pc' := 10) d_jdk_65_method_58_code_9 rfl ?_
  refine Walk.iloadN (pc' := 11) d_jdk_65_method_58_code_10 rfl ?_
  refine Walk.callS (pc' := 14) (Wd := 0) (as := [(.ref s), (.int (0 : Int32)), (.int (1 : Int32)), (.int k)]) (rest := []) (wd77 hw) (wd78 hw) (wd37 hw) (wd79 hw) ((c_bs01 hw s k f As hf).pay (wd79 hw) (wd37 hw) (by decide) (by decide)) (hlen := lenOf pd6 rfl) (hd := d_jdk_65_method_58_code_11) (hst := rfl) (hW := Nat.le_of_eq rfl) (hsz := rfl) (hc1 := Nat.le_of_ble_eq_true rfl) (hl1 := Nat.le_of_ble_eq_true rfl) (hv := Fw.upN) (kk := fun v158 h162 Ts159 Li160 q161 K163 => ?_)
  obtain ⟨rfl, rfl, rfl, rfl⟩ := q161
  show Walk _ _ _ _ _ _ _ _ _ _ _ _ _ _ 0 0 14 _ [(.int (0 : Int32))]
  exact Walk.iret d_jdk_65_method_58_code_14 rfl ⟨rfl, rfl, rfl, rfl⟩ (fun _ q => q) (Nat.le_of_ble_eq_true rfl) (Nat.le_of_ble_eq_true rfl)
set_option maxRecDepth 65536 in
set_option maxHeartbeats 40000000 in
theorem c_ce0 {Z : State} {a0 : Array Value} (hw : ∀ d ∈ tables_1, d.before a0 Z = true) {h : Heap} {Ts : TsT} {Li : LiT} (x s e : Addr) (k : Int32) (f g : Nat → Value) (n : Nat) (As : Av Z h s .int n f) (Ae : Av Z h e .byte 0 g) (F1 : Fld Z h x "com/example/outerview/outerview/ctf/Texts" "slots" "[I" (.ref s)) (F4 : Fld Z h x "com/example/outerview/outerview/ctf/Texts" "held" "I" (.int 0)) :
    Con Z (⟨"com/example/outerview/outerview/ctf/Texts", "contentEquals", "(I[BLcom/example/outerview/outerview/ctf/BitInput;)Z"⟩ : MethodName) prog_146_method_10_code 6 (some .boolean) ({ frames := 2, cells := 0, slots := 0, locals := 34 } : Room) [(.ref x), (.int k), (.ref e), .null] h Ts Li (noW) (Pu (some (.int 1)) h Ts Li) := by
  refine Con.of (ws := Fw h noW) (Ls := #[.val (.ref x), .val (.int k), .val (.ref e), .val .null, .unset, .unset]) (plainFor_of_name pn1) (fun m => by first | rfl | (simp [entryFrame, mkF, argsToLocals, Value.category]; done)) (fun E0 => ?_)
  refine Walk.aloadN (pc' := 1) d_prog_146_method_10_code_0 rfl rfl ?_
  refine Walk.getF (pc' := 4) (host := "") (Or.inl (wd11 hw)) Via.refl F1 d_prog_146_method_10_code_1 ?_
  refine Walk.iconst (pc' := 5) (0 : Int32) d_prog_146_method_10_code_4 rfl ?_
  refine Walk.aloadN (pc' := 6) d_prog_146_method_10_code_5 rfl rfl ?_
  refine Walk.getF (pc' := 9) (host := "") (Or.inl (wd25 hw)) Via.refl F4 d_prog_146_method_10_code_6 ?_
  refine Walk.iloadN (pc' := 10) d_prog_146_method_10_code_9 rfl ?_
  refine Walk.callS (pc' := 13) (Wd := 0) (as := [(.ref s), (.int (0 : Int32)), (.int (0 : Int32)), (.int k)]) (rest := []) (wd71 hw) (wd72 hw) (wd37 hw) (wd73 hw) ((c_bs0 hw s k f n As).pay (wd73 hw) (wd37 hw) (by decide) (by decide)) (hlen := lenOf pd6 rfl) (hd := d_prog_146_method_10_code_10) (hst := rfl) (hW := Nat.le_of_eq rfl) (hsz := rfl) (hc1 := Nat.le_of_ble_eq_true rfl) (hl1 := Nat.le_of_ble_eq_true rfl) (hv := Fw.upN) (kk := fun v164 h168 Ts165 Li166 q167 K169 => ?_)
  obtain ⟨rfl, rfl, rfl, rfl⟩ := q167
  show Walk _ _ _ _ _ _ _ _ _ _ _ _ _ _ 0 0 13 _ [(.int (-1 : Int32))]
  refine Walk.istore (pc' := 15) (Ls' := #[.val (.ref x), .val (.int k), .val (.ref e), .val .null, .val (.int (-1 : Int32)), .unset]) d_prog_146_method_10_code_13 rfl ?_
  refine Walk.iload (pc' := 17) d_prog_146_method_10_code_15 rfl ?_
  refine Walk.ifNo (pc' := 20) d_prog_146_method_10_code_17 (XT.i0_ge_f (by decide)) ?_
  refine Walk.aloadN (pc' := 21) d_prog_146_method_10_code_20 rfl rfl ?_
  refine Walk.alen (pc' := 22) (z := (0 : Int32)) Ae d_prog_146_method_10_code_21 rfl ?_
  refine Walk.ifNo (pc' := 25) d_prog_146_method_10_code_22 (XT.i0_ne_f rfl) ?_
  refine Walk.iconst (pc' := 26) (1 : Int32) d_prog_146_method_10_code_25 rfl ?_
  refine Walk.goto (pc' := 30) d_prog_146_method_10_code_26 ?_
  refine Walk.istore (pc' := 32) (Ls' := #[.val (.ref x), .val (.int k), .val (.ref e), .val .null, .val (.int (-1 : Int32)), .val (.int (1 : Int32))]) d_prog_146_method_10_code_30 rfl ?_
  refine Walk.goto (pc' := 69) d_prog_146_method_10_code_32 ?_
  refine Walk.iload (pc' := 71) d_prog_146_method_10_code_69 rfl ?_
  exact Walk.nret d_prog_146_method_10_code_71 rfl (by simp) ⟨rfl, rfl, rfl, rfl⟩ (fun _ q => q) (Nat.le_of_ble_eq_true rfl) (Nat.le_of_ble_eq_true rfl)
set_option maxRecDepth 65536 in
set_option maxHeartbeats 40000000 in
theorem c_ce1 {Z : State} {a0 : Array Value} (hw : ∀ d ∈ tables_1, d.before a0 Z = true) {h : Heap} {Ts : TsT} {Li : LiT} (x s l e : Addr) (k r : Int32) (f f3 g : Nat → Value) (As : Av Z h s .int 8 f) (Al : Av Z h l .int 8 f3) (Ae : Av Z h e .byte 0 g) (F1 : Fld Z h x "com/example/outerview/outerview/ctf/Texts" "slots" "[I" (.ref s)) (F3 : Fld Z h x "com/example/outerview/outerview/ctf/Texts" "lengths" "[I" (.ref l)) (F4 : Fld Z h x "com/example/outerview/outerview/ctf/Texts" "held" "I" (.int 1)) (hf : f 0 = .int k) (hl : f3 0 = .int r) (hr : ¬ r = 0) :
    Con Z (⟨"com/example/outerview/outerview/ctf/Texts", "contentEquals", "(I[BLcom/example/outerview/outerview/ctf/BitInput;)Z"⟩ : MethodName) prog_146_method_10_code 6 (some .boolean) ({ frames := 2, cells := 0, slots := 0, locals := 34 } : Room) [(.ref x), (.int k), (.ref e), .null] h Ts Li (noW) (Pu (some (.int 0)) h Ts Li) := by
  refine Con.of (ws := Fw h noW) (Ls := #[.val (.ref x), .val (.int k), .val (.ref e), .val .null, .unset, .unset]) (plainFor_of_name pn1) (fun m => by first | rfl | (simp [entryFrame, mkF, argsToLocals, Value.category]; done)) (fun E0 => ?_)
  refine Walk.aloadN (pc' := 1) d_prog_146_method_10_code_0 rfl rfl ?_
  refine Walk.getF (pc' := 4) (host := "") (Or.inl (wd11 hw)) Via.refl F1 d_prog_146_method_10_code_1 ?_
  refine Walk.iconst (pc' := 5) (0 : Int32) d_prog_146_method_10_code_4 rfl ?_
  refine Walk.aloadN (pc' := 6) d_prog_146_method_10_code_5 rfl rfl ?_
  refine Walk.getF (pc' := 9) (host := "") (Or.inl (wd25 hw)) Via.refl F4 d_prog_146_method_10_code_6 ?_
  refine Walk.iloadN (pc' := 10) d_prog_146_method_10_code_9 rfl ?_
  refine Walk.callS (pc' := 13) (Wd := 0) (as := [(.ref s), (.int (0 : Int32)), (.int (1 : Int32)), (.int k)]) (rest := []) (wd71 hw) (wd72 hw) (wd37 hw) (wd73 hw) ((c_bs1 hw s k f As hf).pay (wd73 hw) (wd37 hw) (by decide) (by decide)) (hlen := lenOf pd6 rfl) (hd := d_prog_146_method_10_code_10) (hst := rfl) (hW := Nat.le_of_eq rfl) (hsz := rfl) (hc1 := Nat.le_of_ble_eq_true rfl) (hl1 := Nat.le_of_ble_eq_true rfl) (hv := Fw.upN) (kk := fun v170 h174 Ts171 Li172 q173 K175 => ?_)
  obtain ⟨rfl, rfl, rfl, rfl⟩ := q173
  show Walk _ _ _ _ _ _ _ _ _ _ _ _ _ _ 0 0 13 _ [(.int (0 : Int32))]
  refine Walk.istore (pc' := 15) (Ls' := #[.val (.ref x), .val (.int k), .val (.ref e), .val .null, .val (.int (0 : Int32)), .unset]) d_prog_146_method_10_code_13 rfl ?_
  refine Walk.iload (pc' := 17) d_prog_146_method_10_code_15 rfl ?_
  refine Walk.ifYes (pc' := 35) d_prog_146_method_10_code_17 (XT.i0_ge_t (by decide)) ?_
  refine Walk.aloadN (pc' := 36) d_prog_146_method_10_code_35 rfl rfl ?_
  refine Walk.getF (pc' := 39) (host := "") (Or.inl (wd17 hw)) Via.refl F3 d_prog_146_method_10_code_36 ?_
  refine Walk.iload (pc' := 41) d_prog_146_method_10_code_39 rfl ?_
  refine Walk.iaload (pc' := 42) (i := 0) Al d_prog_146_method_10_code_41 (by decide) rfl (by decide) hl ?_
  refine Walk.aloadN (pc' := 43) d_prog_146_method_10_code_42 rfl rfl ?_
  refine Walk.alen (pc' := 44) (z := (0 : Int32)) Ae d_prog_146_method_10_code_43 rfl ?_
  refine Walk.icYes (pc' := 66) d_prog_146_method_10_code_44 (XT.ii_ne_t hr) ?_
  refine Walk.iconst (pc' := 67) (0 : Int32) d_prog_146_method_10_code_66 rfl ?_
  refine Walk.istore (pc' := 69) (Ls' := #[.val (.ref x), .val (.int k), .val (.ref e), .val .null, .val (.int (0 : Int32)), .val (.int (0 : Int32))]) d_prog_146_method_10_code_67 rfl ?_
  refine Walk.iload (pc' := 71) d_prog_146_method_10_code_69 rfl ?_
  exact Walk.nret d_prog_146_method_10_code_71 rfl (by simp) ⟨rfl, rfl, rfl, rfl⟩ (fun _ q => q) (Nat.le_of_ble_eq_true rfl) (Nat.le_of_ble_eq_true rfl)
set_option maxRecDepth 65536 in
set_option maxHeartbeats 40000000 in
theorem c_init {Z : State} {a0 : Array Value} (hw : ∀ d ∈ tables_1, d.before a0 Z = true) {h : Heap} {Ts : TsT} {Li : LiT} (x : Addr) (ni nl : Addr) (S1 : Sta Z Z.heap "com/example/outerview/outerview/ctf/Texts" "NO_INTS" "[I" (.ref ni)) (S2 : Sta Z Z.heap "com/example/outerview/outerview/ctf/Texts" "NO_LONGS" "[J" (.ref nl)) (E1 : Exa Z h x "com/example/outerview/outerview/ctf/Texts") (F1 : Fld Z h x "com/example/outerview/outerview/ctf/Texts" "slots" "[I" .null) (F2 : Fld Z h x "com/example/outerview/outerview/ctf/Texts" "starts" "[J" .null) (F3 : Fld Z h x "com/example/outerview/outerview/ctf/Texts" "lengths" "[I" .null) (gz : Z.heap.size ≤ x) :
    Con Z (⟨"com/example/outerview/outerview/ctf/Texts", "<init>", "()V"⟩ : MethodName) prog_146_method_1_code 1 none ({ frames := 1, cells := 0, slots := 0, locals := 12 } : Room) [(.ref x)] h Ts Li (fun y => y = (⟨x, Jvm.RoadKit.slotOf Z "com/example/outerview/outerview/ctf/Texts" "slots" "[I"⟩ : Loc) ∨ y = (⟨x, Jvm.RoadKit.slotOf Z "com/example/outerview/outerview/ctf/Texts" "starts" "[J"⟩ : Loc) ∨ y = (⟨x, Jvm.RoadKit.slotOf Z "com/example/outerview/outerview/ctf/Texts" "lengths" "[I"⟩ : Loc)) (fun v h' Ts' Li' => (v = none ∧ Ts' = Ts ∧ Li' = Li) ∧ Fld Z h' x "com/example/outerview/outerview/ctf/Texts" "slots" "[I" (.ref ni) ∧ Fld Z h' x "com/example/outerview/outerview/ctf/Texts" "starts" "[J" (.ref nl) ∧ Fld Z h' x "com/example/outerview/outerview/ctf/Texts" "lengths" "[I" (.ref ni)) := by
  refine Con.of (ws := Fw h fun y => y = (⟨x, Jvm.RoadKit.slotOf Z "com/example/outerview/outerview/ctf/Texts" "slots" "[I"⟩ : Loc) ∨ y = (⟨x, Jvm.RoadKit.slotOf Z "com/example/outerview/outerview/ctf/Texts" "starts" "[J"⟩ : Loc) ∨ y = (⟨x, Jvm.RoadKit.slotOf Z "com/example/outerview/outerview/ctf/Texts" "lengths" "[I"⟩ : Loc)) (Ls := #[.val (.ref x)]) (plainFor_of_name pn1) (fun m => by first | rfl | (simp [entryFrame, mkF, argsToLocals, Value.category]; done)) (fun E0 => ?_)
  refine Walk.aloadN (pc' := 1) d_prog_146_method_1_code_0 rfl rfl ?_
  refine Walk.initO (pc' := 4) (wd6 hw) (wd7 hw) (wd8 hw) d_prog_146_method_1_code_1 rfl (Wd := 0) (Nat.le_of_eq rfl) (by decide) (by decide) ?_
  refine Walk.aloadN (pc' := 5) d_prog_146_method_1_code_4 rfl rfl ?_
  refine Walk.getS (pc' := 8) (wd9 hw) Via.refl S1 d_prog_146_method_1_code_5 ?_
  refine Walk.putF (pc' := 11) (host := "") (Or.inl (wd11 hw)) Via.refl F1 E1 (Or.inl (wd12 hw)) (wd1 hw) (ty := (.array .int)) (by decide) rfl rfl d_prog_146_method_1_code_8 gz (Fw.old (Or.inl rfl)) (fun h176 K177 F178 => ?_)
  refine Walk.aloadN (pc' := 12) d_prog_146_method_1_code_11 rfl rfl ?_
  refine Walk.getS (pc' := 15) (wd13 hw) Via.refl S2 d_prog_146_method_1_code_12 ?_
  refine Walk.putF (pc' := 18) (host := "") (Or.inl (wd15 hw)) Via.refl (F2.kq K177 (nws (slot_ne (a0 := a0) (Or.inl (wd16 hw)) (Or.inl (wd12 hw)) (by decide) (t := (.array .long)) (by decide) (t' := (.array .int)) (by decide)))) (E1.kq K177) (Or.inl (wd16 hw)) (wd1 hw) (ty := (.array .long)) (by decide) rfl rfl d_prog_146_method_1_code_15 gz (Fw.old (Or.inr (Or.inl rfl))) (fun h179 K180 F181 => ?_)
  refine Walk.aloadN (pc' := 19) d_prog_146_method_1_code_18 rfl rfl ?_
  refine Walk.getS (pc' := 22) (wd9 hw) Via.refl S1 d_prog_146_method_1_code_19 ?_
  refine Walk.putF (pc' := 25) (host := "") (Or.inl (wd17 hw)) Via.refl ((F3.kq K177 (nws (slot_ne (a0 := a0) (Or.inl (wd18 hw)) (Or.inl (wd12 hw)) (by decide) (t := (.array .int)) (by decide) (t' := (.array .int)) (by decide)))).kq K180 (nws (slot_ne (a0 := a0) (Or.inl (wd18 hw)) (Or.inl (wd16 hw)) (by decide) (t := (.array .int)) (by decide) (t' := (.array .long)) (by decide)))) ((E1.kq K177).kq K180) (Or.inl (wd18 hw)) (wd1 hw) (ty := (.array .int)) (by decide) rfl rfl d_prog_146_method_1_code_22 gz (Fw.old (Or.inr (Or.inr rfl))) (fun h182 K183 F184 => ?_)
  exact Walk.ret d_prog_146_method_1_code_25 rfl ⟨⟨rfl, rfl, rfl⟩, ((F178.kq K180 (nws (slot_ne (a0 := a0) (Or.inl (wd12 hw)) (Or.inl (wd16 hw)) (by decide) (t := (.array .int)) (by decide) (t' := (.array .long)) (by decide)))).kq K183 (nws (slot_ne (a0 := a0) (Or.inl (wd12 hw)) (Or.inl (wd18 hw)) (by decide) (t := (.array .int)) (by decide) (t' := (.array .int)) (by decide)))), (F181.kq K183 (nws (slot_ne (a0 := a0) (Or.inl (wd16 hw)) (Or.inl (wd18 hw)) (by decide) (t := (.array .long)) (by decide) (t' := (.array .int)) (by decide)))), F184⟩ (fun _ q => q) (Nat.le_of_ble_eq_true rfl) (Nat.le_of_ble_eq_true rfl)
set_option maxRecDepth 65536 in
set_option maxHeartbeats 40000000 in
theorem c_law {Z : State} {a0 : Array Value} (hw : ∀ d ∈ tables_1, d.before a0 Z = true) {h : Heap} {Ts : TsT} {Li : LiT} (p0 : Int32) (p1 : Int64) (p2 : Int32) (p3 : Int64) (p4 : Int32) (p5 : Int64) (ni nl : Addr) (S1 : Sta Z Z.heap "com/example/outerview/outerview/ctf/Texts" "NO_INTS" "[I" (.ref ni)) (S2 : Sta Z Z.heap "com/example/outerview/outerview/ctf/Texts" "NO_LONGS" "[J" (.ref nl)) (B1 : Av Z Z.heap ni .int 0 (fun _ => .int 0)) (B2 : Av Z Z.heap nl .long 0 (fun _ => .long 0)) :
    Con Z x code maxLocals ret room_1 [(.int p0), (.long p1), (.int p2), (.long p3), (.int p4), (.long p5)] h Ts Li (noW) (fun v h' Ts' Li' => v = some (.int 1) ∧ Ts' = Ts) := by
  refine Con.of (ws := Fw h noW) (Ls := #[.val (.int p0), .val (.long p1), .second, .val (.int p2), .val (.long p3), .second, .val (.int p4), .val (.long p5), .second, .unset, .unset, .unset, .unset, .unset, .unset]) (plainFor_of_name pn2) (fun m => by simp [entryFrame, mkF, argsToLocals, cat_i, cat_j, cat_r, cat_n, maxLocals]) (fun E0 => ?_)
  have A1 : Av Z h ni .int 0 (fun _ => .int 0) := B1.kq (Kq.of_ext E0) (fun _ q => q)
  have A2 : Av Z h nl .long 0 (fun _ => .long 0) := B2.kq (Kq.of_ext E0) (fun _ q => q)
  refine Walk.newO (pc' := 3) (wd0 hw) (wd1 hw) (wd2 hw) at_0 (by decide) (by decide) (fun h185 x187 g188 g189 g190 K186 E191 D192 => ?_)
  have F193 : Fld Z h185 x187 "com/example/outerview/outerview/ctf/Texts" "slots" "[I" .null := D192 (Or.inl (wd12 hw)) (ty := (.array .int)) (by decide)
  have F194 : Fld Z h185 x187 "com/example/outerview/outerview/ctf/Texts" "starts" "[J" .null := D192 (Or.inl (wd16 hw)) (ty := (.array .long)) (by decide)
  have F195 : Fld Z h185 x187 "com/example/outerview/outerview/ctf/Texts" "lengths" "[I" .null := D192 (Or.inl (wd18 hw)) (ty := (.array .int)) (by decide)
  have F196 : Fld Z h185 x187 "com/example/outerview/outerview/ctf/Texts" "held" "I" (.int (0 : Int32)) := D192 (Or.inl (wd26 hw)) (ty := .int) (by decide)
  refine Walk.dup (pc' := 4) at_3 rfl ?_
  refine Walk.callI (pc' := 7) (a := x187) (Wd := 1) (as := []) (rest := [(.ref x187)]) (wd3 hw) (wd4 hw) (wd5 hw) ((c_init hw x187 ni nl S1 S2 E191 F193 F194 F195 g190).pay (wd5 hw) (wd2 hw) (by decide) (by decide)) (hlen := lenOf pd7 rfl) (hd := at_4) (hst := rfl) (hW := Nat.le_of_eq rfl) (hsz := rfl) (hc1 := Nat.le_of_ble_eq_true rfl) (hl1 := Nat.le_of_ble_eq_true rfl) (hv := (Fw.up (fun y q => Or.inl (by rcases q with rfl | rfl | rfl <;> exact g189)))) (kk := fun v200 h204 Ts201 Li202 q203 K205 => ?_)
  obtain ⟨⟨rfl, rfl, rfl⟩, F197, F198, F199⟩ := q203
  show Walk _ _ _ _ _ _ _ _ _ _ _ _ _ _ 1 4 7 _ [(.ref x187)]
  refine Walk.astore (pc' := 9) (Ls' := #[.val (.int p0), .val (.long p1), .second, .val (.int p2), .val (.long p3), .second, .val (.int p4), .val (.long p5), .second, .val (.ref x187), .unset, .unset, .unset, .unset, .unset]) at_7 rfl rfl ?_
  refine Walk.newO (pc' := 12) (wd0 hw) (wd1 hw) (wd2 hw) at_9 (by decide) (by decide) (fun h206 x208 g209 g210 g211 K207 E212 D213 => ?_)
  have F214 : Fld Z h206 x208 "com/example/outerview/outerview/ctf/Texts" "slots" "[I" .null := D213 (Or.inl (wd12 hw)) (ty := (.array .int)) (by decide)
  have F215 : Fld Z h206 x208 "com/example/outerview/outerview/ctf/Texts" "starts" "[J" .null := D213 (Or.inl (wd16 hw)) (ty := (.array .long)) (by decide)
  have F216 : Fld Z h206 x208 "com/example/outerview/outerview/ctf/Texts" "lengths" "[I" .null := D213 (Or.inl (wd18 hw)) (ty := (.array .int)) (by decide)
  have F217 : Fld Z h206 x208 "com/example/outerview/outerview/ctf/Texts" "held" "I" (.int (0 : Int32)) := D213 (Or.inl (wd26 hw)) (ty := .int) (by decide)
  refine Walk.dup (pc' := 13) at_12 rfl ?_
  refine Walk.callI (pc' := 16) (a := x208) (Wd := 1) (as := []) (rest := [(.ref x208)]) (wd3 hw) (wd4 hw) (wd5 hw) ((c_init hw x208 ni nl S1 S2 E212 F214 F215 F216 g211).pay (wd5 hw) (wd2 hw) (by decide) (by decide)) (hlen := lenOf pd7 rfl) (hd := at_13) (hst := rfl) (hW := Nat.le_of_eq rfl) (hsz := rfl) (hc1 := Nat.le_of_ble_eq_true rfl) (hl1 := Nat.le_of_ble_eq_true rfl) (hv := (Fw.up (fun y q => Or.inl (by rcases q with rfl | rfl | rfl <;> exact g210)))) (kk := fun v221 h225 Ts222 Li223 q224 K226 => ?_)
  obtain ⟨⟨rfl, rfl, rfl⟩, F218, F219, F220⟩ := q224
  show Walk _ _ _ _ _ _ _ _ _ _ _ _ _ _ 2 8 16 _ [(.ref x208)]
  refine Walk.astore (pc' := 18) (Ls' := #[.val (.int p0), .val (.long p1), .second, .val (.int p2), .val (.long p3), .second, .val (.int p4), .val (.long p5), .second, .val (.ref x187), .val (.ref x208), .unset, .unset, .unset, .unset]) at_16 rfl rfl ?_
  refine Walk.iconst (pc' := 19) (0 : Int32) at_18 rfl ?_
  refine Walk.newA (pc' := 21) (aty := .byte) (cap := 0) (wd19 hw) at_19 (by decide) (by decide) (by decide) (by decide) (by decide) (fun h227 x229 g230 g231 g232 K228 A233 R234 => ?_)
  refine Walk.astore (pc' := 23) (Ls' := #[.val (.int p0), .val (.long p1), .second, .val (.int p2), .val (.long p3), .second, .val (.int p4), .val (.long p5), .second, .val (.ref x187), .val (.ref x208), .val (.ref x229), .unset, .unset, .unset]) at_21 rfl rfl ?_
  refine Walk.aload (pc' := 25) at_23 rfl rfl ?_
  refine Walk.iloadN (pc' := 26) at_25 rfl ?_
  refine Walk.lload (pc' := 28) at_26 rfl ?_
  refine Walk.lloadN (pc' := 29) at_28 rfl ?_
  by_cases h1 : 0 < p1
  · skip
    obtain ⟨r1, hr1⟩ : ∃ r : Int64, ((1048576 : Int64) < p1 ∧ r = (1048576 : Int64)) ∨ (¬ (1048576 : Int64) < p1 ∧ r = p1) := (Decidable.em ((1048576 : Int64) < p1)).elim (fun q => ⟨_, Or.inl ⟨q, rfl⟩⟩) (fun q => ⟨_, Or.inr ⟨q, rfl⟩⟩)
    refine Walk.callV (pc' := 32) (a := x187) (Wd := 0) (as := [(.int p0), (.long p5), (.long p1)]) (rest := []) (wd20 hw) (wd21 hw) (wd23 hw) (wd23 hw) (wd22 hw) ((((E191.kq K205).kq K207).kq K226).kq K228) ((c_set1 hw x187 p0 p5 p1 r1 h1 hr1 ni nl _ _ (((((A1.kq K186 (fun _ => (fun q => q))).kq K205 (fun _ => (not_or.mpr ⟨(nw (ltne A1.lt g188)), (not_or.mpr ⟨(nw (ltne A1.lt g188)), (nw (ltne A1.lt g188))⟩)⟩))).kq K207 (fun _ => (fun q => q))).kq K226 (fun _ => (not_or.mpr ⟨(nw (ltne ((A1.kq K186 (fun _ => (fun q => q))).kq K205 (fun _ => (not_or.mpr ⟨(nw (ltne A1.lt g188)), (not_or.mpr ⟨(nw (ltne A1.lt g188)), (nw (ltne A1.lt g188))⟩)⟩))).lt g209)), (not_or.mpr ⟨(nw (ltne ((A1.kq K186 (fun _ => (fun q => q))).kq K205 (fun _ => (not_or.mpr ⟨(nw (ltne A1.lt g188)), (not_or.mpr ⟨(nw (ltne A1.lt g188)), (nw (ltne A1.lt g188))⟩)⟩))).lt g209)), (nw (ltne ((A1.kq K186 (fun _ => (fun q => q))).kq K205 (fun _ => (not_or.mpr ⟨(nw (ltne A1.lt g188)), (not_or.mpr ⟨(nw (ltne A1.lt g188)), (nw (ltne A1.lt g188))⟩)⟩))).lt g209))⟩)⟩))).kq K228 (fun _ => (fun q => q))) (((((A2.kq K186 (fun _ => (fun q => q))).kq K205 (fun _ => (not_or.mpr ⟨(nw (ltne A2.lt g188)), (not_or.mpr ⟨(nw (ltne A2.lt g188)), (nw (ltne A2.lt g188))⟩)⟩))).kq K207 (fun _ => (fun q => q))).kq K226 (fun _ => (not_or.mpr ⟨(nw (ltne ((A2.kq K186 (fun _ => (fun q => q))).kq K205 (fun _ => (not_or.mpr ⟨(nw (ltne A2.lt g188)), (not_or.mpr ⟨(nw (ltne A2.lt g188)), (nw (ltne A2.lt g188))⟩)⟩))).lt g209)), (not_or.mpr ⟨(nw (ltne ((A2.kq K186 (fun _ => (fun q => q))).kq K205 (fun _ => (not_or.mpr ⟨(nw (ltne A2.lt g188)), (not_or.mpr ⟨(nw (ltne A2.lt g188)), (nw (ltne A2.lt g188))⟩)⟩))).lt g209)), (nw (ltne ((A2.kq K186 (fun _ => (fun q => q))).kq K205 (fun _ => (not_or.mpr ⟨(nw (ltne A2.lt g188)), (not_or.mpr ⟨(nw (ltne A2.lt g188)), (nw (ltne A2.lt g188))⟩)⟩))).lt g209))⟩)⟩))).kq K228 (fun _ => (fun q => q))) ((((E191.kq K205).kq K207).kq K226).kq K228) (((F197.kq K207 (fun q => q)).kq K226 (not_or.mpr ⟨(nw (ltne (E191.kq K205).lt g209)), (not_or.mpr ⟨(nw (ltne (E191.kq K205).lt g209)), (nw (ltne (E191.kq K205).lt g209))⟩)⟩)).kq K228 (fun q => q)) (((F198.kq K207 (fun q => q)).kq K226 (not_or.mpr ⟨(nw (ltne (E191.kq K205).lt g209)), (not_or.mpr ⟨(nw (ltne (E191.kq K205).lt g209)), (nw (ltne (E191.kq K205).lt g209))⟩)⟩)).kq K228 (fun q => q)) (((F199.kq K207 (fun q => q)).kq K226 (not_or.mpr ⟨(nw (ltne (E191.kq K205).lt g209)), (not_or.mpr ⟨(nw (ltne (E191.kq K205).lt g209)), (nw (ltne (E191.kq K205).lt g209))⟩)⟩)).kq K228 (fun q => q)) ((((F196.kq K205 (not_or.mpr ⟨(nws (slot_ne (a0 := a0) (Or.inl (wd26 hw)) (Or.inl (wd12 hw)) (by decide) (t := .int) (by decide) (t' := (.array .int)) (by decide))), (not_or.mpr ⟨(nws (slot_ne (a0 := a0) (Or.inl (wd26 hw)) (Or.inl (wd16 hw)) (by decide) (t := .int) (by decide) (t' := (.array .long)) (by decide))), (nws (slot_ne (a0 := a0) (Or.inl (wd26 hw)) (Or.inl (wd18 hw)) (by decide) (t := .int) (by decide) (t' := (.array .int)) (by decide)))⟩)⟩)).kq K207 (fun q => q)).kq K226 (not_or.mpr ⟨(nw (ltne (E191.kq K205).lt g209)), (not_or.mpr ⟨(nw (ltne (E191.kq K205).lt g209)), (nw (ltne (E191.kq K205).lt g209))⟩)⟩)).kq K228 (fun q => q)) g190).pay (wd24 hw) (wd2 hw) (by decide) (by decide)) (hlen := lenOf pd8 rfl) (hd := at_29) (hst := rfl) (hW := Nat.le_of_eq rfl) (hsz := rfl) (hc1 := Nat.le_of_ble_eq_true rfl) (hl1 := Nat.le_of_ble_eq_true rfl) (hv := (Fw.up (fun y q => Or.inl (q ▸ g189)))) (kk := fun v252 h256 Ts253 Li254 q255 K257 => ?_)
    obtain ⟨⟨rfl, rfl, rfl⟩, s235, t236, l237, f238, gs239, gt240, gl241, n1242, n2243, n3244, F1245, F2246, F3247, F4248, As249, At250, Al251⟩ := q255
    show Walk _ _ _ _ _ _ _ _ _ _ _ _ _ _ 6 32 32 _ []
    refine Walk.aload (pc' := 34) at_32 rfl rfl ?_
    refine Walk.iloadN (pc' := 35) at_34 rfl ?_
    refine Walk.lload (pc' := 37) at_35 rfl ?_
    refine Walk.lload (pc' := 39) at_37 rfl ?_
    by_cases h3 : 0 < p3
    · skip
      obtain ⟨r3, hr3⟩ : ∃ r : Int64, ((1048576 : Int64) < p3 ∧ r = (1048576 : Int64)) ∨ (¬ (1048576 : Int64) < p3 ∧ r = p3) := (Decidable.em ((1048576 : Int64) < p3)).elim (fun q => ⟨_, Or.inl ⟨q, rfl⟩⟩) (fun q => ⟨_, Or.inr ⟨q, rfl⟩⟩)
      refine Walk.callV (pc' := 42) (a := x208) (Wd := 0) (as := [(.int p2), (.long p5), (.long p3)]) (rest := []) (wd20 hw) (wd21 hw) (wd23 hw) (wd23 hw) (wd22 hw) (((E212.kq K226).kq K228).kq K257) ((c_set1 hw x208 p2 p5 p3 r3 h3 hr3 ni nl _ _ ((((((A1.kq K186 (fun _ => (fun q => q))).kq K205 (fun _ => (not_or.mpr ⟨(nw (ltne A1.lt g188)), (not_or.mpr ⟨(nw (ltne A1.lt g188)), (nw (ltne A1.lt g188))⟩)⟩))).kq K207 (fun _ => (fun q => q))).kq K226 (fun _ => (not_or.mpr ⟨(nw (ltne ((A1.kq K186 (fun _ => (fun q => q))).kq K205 (fun _ => (not_or.mpr ⟨(nw (ltne A1.lt g188)), (not_or.mpr ⟨(nw (ltne A1.lt g188)), (nw (ltne A1.lt g188))⟩)⟩))).lt g209)), (not_or.mpr ⟨(nw (ltne ((A1.kq K186 (fun _ => (fun q => q))).kq K205 (fun _ => (not_or.mpr ⟨(nw (ltne A1.lt g188)), (not_or.mpr ⟨(nw (ltne A1.lt g188)), (nw (ltne A1.lt g188))⟩)⟩))).lt g209)), (nw (ltne ((A1.kq K186 (fun _ => (fun q => q))).kq K205 (fun _ => (not_or.mpr ⟨(nw (ltne A1.lt g188)), (not_or.mpr ⟨(nw (ltne A1.lt g188)), (nw (ltne A1.lt g188))⟩)⟩))).lt g209))⟩)⟩))).kq K228 (fun _ => (fun q => q))).kq K257 (fun _ => (nwb (ltne A1.lt g188)))) ((((((A2.kq K186 (fun _ => (fun q => q))).kq K205 (fun _ => (not_or.mpr ⟨(nw (ltne A2.lt g188)), (not_or.mpr ⟨(nw (ltne A2.lt g188)), (nw (ltne A2.lt g188))⟩)⟩))).kq K207 (fun _ => (fun q => q))).kq K226 (fun _ => (not_or.mpr ⟨(nw (ltne ((A2.kq K186 (fun _ => (fun q => q))).kq K205 (fun _ => (not_or.mpr ⟨(nw (ltne A2.lt g188)), (not_or.mpr ⟨(nw (ltne A2.lt g188)), (nw (ltne A2.lt g188))⟩)⟩))).lt g209)), (not_or.mpr ⟨(nw (ltne ((A2.kq K186 (fun _ => (fun q => q))).kq K205 (fun _ => (not_or.mpr ⟨(nw (ltne A2.lt g188)), (not_or.mpr ⟨(nw (ltne A2.lt g188)), (nw (ltne A2.lt g188))⟩)⟩))).lt g209)), (nw (ltne ((A2.kq K186 (fun _ => (fun q => q))).kq K205 (fun _ => (not_or.mpr ⟨(nw (ltne A2.lt g188)), (not_or.mpr ⟨(nw (ltne A2.lt g188)), (nw (ltne A2.lt g188))⟩)⟩))).lt g209))⟩)⟩))).kq K228 (fun _ => (fun q => q))).kq K257 (fun _ => (nwb (ltne A2.lt g188)))) (((E212.kq K226).kq K228).kq K257) ((F218.kq K228 (fun q => q)).kq K257 (nwb (gtne (E191.kq K205).lt g209))) ((F219.kq K228 (fun q => q)).kq K257 (nwb (gtne (E191.kq K205).lt g209))) ((F220.kq K228 (fun q => q)).kq K257 (nwb (gtne (E191.kq K205).lt g209))) (((F217.kq K226 (not_or.mpr ⟨(nws (slot_ne (a0 := a0) (Or.inl (wd26 hw)) (Or.inl (wd12 hw)) (by decide) (t := .int) (by decide) (t' := (.array .int)) (by decide))), (not_or.mpr ⟨(nws (slot_ne (a0 := a0) (Or.inl (wd26 hw)) (Or.inl (wd16 hw)) (by decide) (t := .int) (by decide) (t' := (.array .long)) (by decide))), (nws (slot_ne (a0 := a0) (Or.inl (wd26 hw)) (Or.inl (wd18 hw)) (by decide) (t := .int) (by decide) (t' := (.array .int)) (by decide)))⟩)⟩)).kq K228 (fun q => q)).kq K257 (nwb (gtne (E191.kq K205).lt g209))) g211).pay (wd24 hw) (wd2 hw) (by decide) (by decide)) (hlen := lenOf pd8 rfl) (hd := at_39) (hst := rfl) (hW := Nat.le_of_eq rfl) (hsz := rfl) (hc1 := Nat.le_of_ble_eq_true rfl) (hl1 := Nat.le_of_ble_eq_true rfl) (hv := (Fw.up (fun y q => Or.inl (q ▸ g210)))) (kk := fun v275 h279 Ts276 Li277 q278 K280 => ?_)
      obtain ⟨⟨rfl, rfl, rfl⟩, s258, t259, l260, f261, gs262, gt263, gl264, n1265, n2266, n3267, F1268, F2269, F3270, F4271, As272, At273, Al274⟩ := q278
      show Walk _ _ _ _ _ _ _ _ _ _ _ _ _ _ 9 56 42 _ []
      refine Walk.aload (pc' := 44) at_42 rfl rfl ?_
      refine Walk.callV (pc' := 47) (a := x208) (Wd := 0) (as := []) (rest := []) (wd55 hw) (wd56 hw) (wd58 hw) (wd58 hw) (wd57 hw) ((((E212.kq K226).kq K228).kq K257).kq K280) ((c_foot8 hw x208 s258 _ As272 F1268).pay (wd59 hw) (wd2 hw) (by decide) (by decide)) (hlen := lenOf pd9 rfl) (hd := at_44) (hst := rfl) (hW := Nat.le_of_eq rfl) (hsz := rfl) (hc1 := Nat.le_of_ble_eq_true rfl) (hl1 := Nat.le_of_ble_eq_true rfl) (hv := Fw.upN) (kk := fun v281 h285 Ts282 Li283 q284 K286 => ?_)
      obtain ⟨rfl, rfl, rfl, rfl⟩ := q284
      show Walk _ _ _ _ _ _ _ _ _ _ _ _ _ _ 9 56 47 _ [(.long (128 : Int64))]
      refine Walk.lstore (pc' := 49) (Ls' := #[.val (.int p0), .val (.long p1), .second, .val (.int p2), .val (.long p3), .second, .val (.int p4), .val (.long p5), .second, .val (.ref x187), .val (.ref x208), .val (.ref x229), .val (.long (128 : Int64)), .second, .unset]) at_47 rfl ?_
      refine Walk.aload (pc' := 51) at_49 rfl rfl ?_
      refine Walk.aload (pc' := 53) at_51 rfl rfl ?_
      refine Walk.callV (pc' := 56) (a := x187) (Wd := 0) (as := [(.ref x208)]) (rest := []) (wd61 hw) (wd62 hw) (wd64 hw) (wd64 hw) (wd63 hw) ((((((E191.kq K205).kq K207).kq K226).kq K228).kq K257).kq K280) ((c_take hw x187 x208 s258 t259 l260 _ _ _ _ _ ni nl S1 S2 (ltne (E191.kq K205).lt g209) ((((((E191.kq K205).kq K207).kq K226).kq K228).kq K257).kq K280) ((((E212.kq K226).kq K228).kq K257).kq K280) (F1245.kq K280 (nwb (ltne (E191.kq K205).lt g209))) (F2246.kq K280 (nwb (ltne (E191.kq K205).lt g209))) (F3247.kq K280 (nwb (ltne (E191.kq K205).lt g209))) (F4248.kq K280 (nwb (ltne (E191.kq K205).lt g209))) F1268 F2269 F3270 F4271 g190 g211).pay (wd65 hw) (wd2 hw) (by decide) (by decide)) (hlen := lenOf pd10 rfl) (hd := at_53) (hst := rfl) (hW := Nat.le_of_eq rfl) (hsz := rfl) (hc1 := Nat.le_of_ble_eq_true rfl) (hl1 := Nat.le_of_ble_eq_true rfl) (hv := (Fw.up (fun y q => Or.inl (q.elim (fun q => q ▸ g189) (fun q => q ▸ g210))))) (kk := fun v295 h299 Ts296 Li297 q298 K300 => ?_)
      obtain ⟨⟨rfl, rfl, rfl⟩, F287, F288, F289, F290, F291, F292, F293, F294⟩ := q298
      show Walk _ _ _ _ _ _ _ _ _ _ _ _ _ _ 9 56 56 _ []
      refine Walk.lload (pc' := 58) at_56 rfl ?_
      refine Walk.lload (pc' := 60) at_58 rfl ?_
      refine Walk.lconst (pc' := 61) (0 : Int64) at_60 rfl ?_
      refine Walk.lcmp (pc' := 62) at_61 ?_
      refine Walk.ifNo (pc' := 65) at_62 (XT.ll_le_f h3) ?_
      refine Walk.ldcJ (pc' := 68) (wd80 hw) at_65 ?_
      refine Walk.goto (pc' := 72) at_68 ?_
      refine Walk.lcmp (pc' := 73) at_72 ?_
      refine Walk.ifNo (pc' := 76) at_73 (XT.ll_ne_f rfl) ?_
      refine Walk.iconst (pc' := 77) (1 : Int32) at_76 rfl ?_
      refine Walk.goto (pc' := 81) at_77 ?_
      refine Walk.istore (pc' := 83) (Ls' := #[.val (.int p0), .val (.long p1), .second, .val (.int p2), .val (.long p3), .second, .val (.int p4), .val (.long p5), .second, .val (.ref x187), .val (.ref x208), .val (.ref x229), .val (.long (128 : Int64)), .second, .val (.int (1 : Int32))]) at_81 rfl ?_
      refine Walk.iload (pc' := 85) at_83 rfl ?_
      refine Walk.ifNo (pc' := 88) at_85 (XT.i0_eq_f (by decide)) ?_
      refine Walk.aload (pc' := 90) at_88 rfl rfl ?_
      refine Walk.callV (pc' := 93) (a := x187) (Wd := 0) (as := []) (rest := []) (wd55 hw) (wd56 hw) (wd58 hw) (wd58 hw) (wd57 hw) (((((((E191.kq K205).kq K207).kq K226).kq K228).kq K257).kq K280).kq K300) ((c_foot8 hw x187 s258 _ (As272.kq K300 (fun _ => (not_or.mpr ⟨(nwb (gtne (((((E191.kq K205).kq K207).kq K226).kq K228).kq K257).lt gs262)), (nwb (gtne (((E212.kq K226).kq K228).kq K257).lt gs262))⟩))) F287).pay (wd59 hw) (wd2 hw) (by decide) (by decide)) (hlen := lenOf pd9 rfl) (hd := at_90) (hst := rfl) (hW := Nat.le_of_eq rfl) (hsz := rfl) (hc1 := Nat.le_of_ble_eq_true rfl) (hl1 := Nat.le_of_ble_eq_true rfl) (hv := Fw.upN) (kk := fun v301 h305 Ts302 Li303 q304 K306 => ?_)
      obtain ⟨rfl, rfl, rfl, rfl⟩ := q304
      show Walk _ _ _ _ _ _ _ _ _ _ _ _ _ _ 9 56 93 _ [(.long (128 : Int64))]
      refine Walk.lload (pc' := 95) at_93 rfl ?_
      refine Walk.lcmp (pc' := 96) at_95 ?_
      refine Walk.ifNo (pc' := 99) at_96 (XT.ll_ne_f rfl) ?_
      refine Walk.iconst (pc' := 100) (1 : Int32) at_99 rfl ?_
      refine Walk.goto (pc' := 104) at_100 ?_
      refine Walk.istore (pc' := 106) (Ls' := #[.val (.int p0), .val (.long p1), .second, .val (.int p2), .val (.long p3), .second, .val (.int p4), .val (.long p5), .second, .val (.ref x187), .val (.ref x208), .val (.ref x229), .val (.long (128 : Int64)), .second, .val (.int (1 : Int32))]) at_104 rfl ?_
      refine Walk.iload (pc' := 108) at_106 rfl ?_
      refine Walk.ifNo (pc' := 111) at_108 (XT.i0_eq_f (by decide)) ?_
      refine Walk.aload (pc' := 113) at_111 rfl rfl ?_
      refine Walk.callV (pc' := 116) (a := x208) (Wd := 0) (as := []) (rest := []) (wd55 hw) (wd56 hw) (wd58 hw) (wd58 hw) (wd57 hw) (((((E212.kq K226).kq K228).kq K257).kq K280).kq K300) ((c_foot0 hw x208 ni _ ((((((((A1.kq K186 (fun _ => (fun q => q))).kq K205 (fun _ => (not_or.mpr ⟨(nw (ltne A1.lt g188)), (not_or.mpr ⟨(nw (ltne A1.lt g188)), (nw (ltne A1.lt g188))⟩)⟩))).kq K207 (fun _ => (fun q => q))).kq K226 (fun _ => (not_or.mpr ⟨(nw (ltne ((A1.kq K186 (fun _ => (fun q => q))).kq K205 (fun _ => (not_or.mpr ⟨(nw (ltne A1.lt g188)), (not_or.mpr ⟨(nw (ltne A1.lt g188)), (nw (ltne A1.lt g188))⟩)⟩))).lt g209)), (not_or.mpr ⟨(nw (ltne ((A1.kq K186 (fun _ => (fun q => q))).kq K205 (fun _ => (not_or.mpr ⟨(nw (ltne A1.lt g188)), (not_or.mpr ⟨(nw (ltne A1.lt g188)), (nw (ltne A1.lt g188))⟩)⟩))).lt g209)), (nw (ltne ((A1.kq K186 (fun _ => (fun q => q))).kq K205 (fun _ => (not_or.mpr ⟨(nw (ltne A1.lt g188)), (not_or.mpr ⟨(nw (ltne A1.lt g188)), (nw (ltne A1.lt g188))⟩)⟩))).lt g209))⟩)⟩))).kq K228 (fun _ => (fun q => q))).kq K257 (fun _ => (nwb (ltne A1.lt g188)))).kq K280 (fun _ => (nwb (ltne ((A1.kq K186 (fun _ => (fun q => q))).kq K205 (fun _ => (not_or.mpr ⟨(nw (ltne A1.lt g188)), (not_or.mpr ⟨(nw (ltne A1.lt g188)), (nw (ltne A1.lt g188))⟩)⟩))).lt g209)))).kq K300 (fun _ => (not_or.mpr ⟨(nwb (ltne A1.lt g188)), (nwb (ltne ((A1.kq K186 (fun _ => (fun q => q))).kq K205 (fun _ => (not_or.mpr ⟨(nw (ltne A1.lt g188)), (not_or.mpr ⟨(nw (ltne A1.lt g188)), (nw (ltne A1.lt g188))⟩)⟩))).lt g209))⟩))) F291).pay (wd59 hw) (wd2 hw) (by decide) (by decide)) (hlen := lenOf pd9 rfl) (hd := at_113) (hst := rfl) (hW := Nat.le_of_eq rfl) (hsz := rfl) (hc1 := Nat.le_of_ble_eq_true rfl) (hl1 := Nat.le_of_ble_eq_true rfl) (hv := Fw.upN) (kk := fun v307 h311 Ts308 Li309 q310 K312 => ?_)
      obtain ⟨rfl, rfl, rfl, rfl⟩ := q310
      show Walk _ _ _ _ _ _ _ _ _ _ _ _ _ _ 9 56 116 _ [(.long (0 : Int64))]
      refine Walk.lconst (pc' := 117) (0 : Int64) at_116 rfl ?_
      refine Walk.lcmp (pc' := 118) at_117 ?_
      refine Walk.ifNo (pc' := 121) at_118 (XT.ll_ne_f rfl) ?_
      refine Walk.iconst (pc' := 122) (1 : Int32) at_121 rfl ?_
      refine Walk.goto (pc' := 126) at_122 ?_
      refine Walk.istore (pc' := 128) (Ls' := #[.val (.int p0), .val (.long p1), .second, .val (.int p2), .val (.long p3), .second, .val (.int p4), .val (.long p5), .second, .val (.ref x187), .val (.ref x208), .val (.ref x229), .val (.long (128 : Int64)), .second, .val (.int (1 : Int32))]) at_126 rfl ?_
      refine Walk.iload (pc' := 130) at_128 rfl ?_
      refine Walk.ifNo (pc' := 133) at_130 (XT.i0_eq_f (by decide)) ?_
      refine Walk.aload (pc' := 135) at_133 rfl rfl ?_
      refine Walk.iloadN (pc' := 136) at_135 rfl ?_
      refine Walk.aload (pc' := 138) at_136 rfl rfl ?_
      refine Walk.aconstNull (pc' := 139) at_138 ?_
      refine Walk.callV (pc' := 142) (a := x187) (Wd := 0) (as := [(.int p2), (.ref x229), .null]) (rest := []) (wd66 hw) (wd67 hw) (wd69 hw) (wd69 hw) (wd68 hw) (((((((E191.kq K205).kq K207).kq K226).kq K228).kq K257).kq K280).kq K300) ((c_ce0 hw x187 s258 x229 p2 _ _ 8 (As272.kq K300 (fun _ => (not_or.mpr ⟨(nwb (gtne (((((E191.kq K205).kq K207).kq K226).kq K228).kq K257).lt gs262)), (nwb (gtne (((E212.kq K226).kq K228).kq K257).lt gs262))⟩))) (((A233.kq K257 (fun _ => (nwb (gtne (((E191.kq K205).kq K207).kq K226).lt g230)))).kq K280 (fun _ => (nwb (gtne (E212.kq K226).lt g230)))).kq K300 (fun _ => (not_or.mpr ⟨(nwb (gtne (((E191.kq K205).kq K207).kq K226).lt g230)), (nwb (gtne (E212.kq K226).lt g230))⟩))) F287 F290).pay (wd70 hw) (wd2 hw) (by decide) (by decide)) (hlen := lenOf pd11 rfl) (hd := at_139) (hst := rfl) (hW := Nat.le_of_eq rfl) (hsz := rfl) (hc1 := Nat.le_of_ble_eq_true rfl) (hl1 := Nat.le_of_ble_eq_true rfl) (hv := Fw.upN) (kk := fun v313 h317 Ts314 Li315 q316 K318 => ?_)
      obtain ⟨rfl, rfl, rfl, rfl⟩ := q316
      show Walk _ _ _ _ _ _ _ _ _ _ _ _ _ _ 9 56 142 _ [(.int (1 : Int32))]
      refine Walk.ifNo (pc' := 145) at_142 (XT.i0_eq_f (by decide)) ?_
      refine Walk.iconst (pc' := 146) (1 : Int32) at_145 rfl ?_
      refine Walk.goto (pc' := 150) at_146 ?_
      refine Walk.istore (pc' := 152) (Ls' := #[.val (.int p0), .val (.long p1), .second, .val (.int p2), .val (.long p3), .second, .val (.int p4), .val (.long p5), .second, .val (.ref x187), .val (.ref x208), .val (.ref x229), .val (.long (128 : Int64)), .second, .val (.int (1 : Int32))]) at_150 rfl ?_
      refine Walk.iload (pc' := 154) at_152 rfl ?_
      refine Walk.ifNo (pc' := 157) at_154 (XT.i0_eq_f (by decide)) ?_
      refine Walk.aload (pc' := 159) at_157 rfl rfl ?_
      refine Walk.iloadN (pc' := 160) at_159 rfl ?_
      refine Walk.aload (pc' := 162) at_160 rfl rfl ?_
      refine Walk.aconstNull (pc' := 163) at_162 ?_
      refine Walk.callV (pc' := 166) (a := x208) (Wd := 0) (as := [(.int p2), (.ref x229), .null]) (rest := []) (wd66 hw) (wd67 hw) (wd69 hw) (wd69 hw) (wd68 hw) (((((E212.kq K226).kq K228).kq K257).kq K280).kq K300) ((c_ce0 hw x208 ni x229 p2 _ _ 0 ((((((((A1.kq K186 (fun _ => (fun q => q))).kq K205 (fun _ => (not_or.mpr ⟨(nw (ltne A1.lt g188)), (not_or.mpr ⟨(nw (ltne A1.lt g188)), (nw (ltne A1.lt g188))⟩)⟩))).kq K207 (fun _ => (fun q => q))).kq K226 (fun _ => (not_or.mpr ⟨(nw (ltne ((A1.kq K186 (fun _ => (fun q => q))).kq K205 (fun _ => (not_or.mpr ⟨(nw (ltne A1.lt g188)), (not_or.mpr ⟨(nw (ltne A1.lt g188)), (nw (ltne A1.lt g188))⟩)⟩))).lt g209)), (not_or.mpr ⟨(nw (ltne ((A1.kq K186 (fun _ => (fun q => q))).kq K205 (fun _ => (not_or.mpr ⟨(nw (ltne A1.lt g188)), (not_or.mpr ⟨(nw (ltne A1.lt g188)), (nw (ltne A1.lt g188))⟩)⟩))).lt g209)), (nw (ltne ((A1.kq K186 (fun _ => (fun q => q))).kq K205 (fun _ => (not_or.mpr ⟨(nw (ltne A1.lt g188)), (not_or.mpr ⟨(nw (ltne A1.lt g188)), (nw (ltne A1.lt g188))⟩)⟩))).lt g209))⟩)⟩))).kq K228 (fun _ => (fun q => q))).kq K257 (fun _ => (nwb (ltne A1.lt g188)))).kq K280 (fun _ => (nwb (ltne ((A1.kq K186 (fun _ => (fun q => q))).kq K205 (fun _ => (not_or.mpr ⟨(nw (ltne A1.lt g188)), (not_or.mpr ⟨(nw (ltne A1.lt g188)), (nw (ltne A1.lt g188))⟩)⟩))).lt g209)))).kq K300 (fun _ => (not_or.mpr ⟨(nwb (ltne A1.lt g188)), (nwb (ltne ((A1.kq K186 (fun _ => (fun q => q))).kq K205 (fun _ => (not_or.mpr ⟨(nw (ltne A1.lt g188)), (not_or.mpr ⟨(nw (ltne A1.lt g188)), (nw (ltne A1.lt g188))⟩)⟩))).lt g209))⟩))) (((A233.kq K257 (fun _ => (nwb (gtne (((E191.kq K205).kq K207).kq K226).lt g230)))).kq K280 (fun _ => (nwb (gtne (E212.kq K226).lt g230)))).kq K300 (fun _ => (not_or.mpr ⟨(nwb (gtne (((E191.kq K205).kq K207).kq K226).lt g230)), (nwb (gtne (E212.kq K226).lt g230))⟩))) F291 F294).pay (wd70 hw) (wd2 hw) (by decide) (by decide)) (hlen := lenOf pd11 rfl) (hd := at_163) (hst := rfl) (hW := Nat.le_of_eq rfl) (hsz := rfl) (hc1 := Nat.le_of_ble_eq_true rfl) (hl1 := Nat.le_of_ble_eq_true rfl) (hv := Fw.upN) (kk := fun v319 h323 Ts320 Li321 q322 K324 => ?_)
      obtain ⟨rfl, rfl, rfl, rfl⟩ := q322
      show Walk _ _ _ _ _ _ _ _ _ _ _ _ _ _ 9 56 166 _ [(.int (1 : Int32))]
      refine Walk.ifNo (pc' := 169) at_166 (XT.i0_eq_f (by decide)) ?_
      refine Walk.iconst (pc' := 170) (1 : Int32) at_169 rfl ?_
      refine Walk.goto (pc' := 174) at_170 ?_
      refine Walk.istore (pc' := 176) (Ls' := #[.val (.int p0), .val (.long p1), .second, .val (.int p2), .val (.long p3), .second, .val (.int p4), .val (.long p5), .second, .val (.ref x187), .val (.ref x208), .val (.ref x229), .val (.long (128 : Int64)), .second, .val (.int (1 : Int32))]) at_174 rfl ?_
      refine Walk.iload (pc' := 178) at_176 rfl ?_
      refine Walk.ifYes (pc' := 183) at_178 (XT.i0_ne_t (by decide)) ?_
      refine Walk.aload (pc' := 185) at_183 rfl rfl ?_
      refine Walk.iload (pc' := 187) at_185 rfl ?_
      refine Walk.lload (pc' := 189) at_187 rfl ?_
      refine Walk.lconst (pc' := 190) (1 : Int64) at_189 rfl ?_
      refine Walk.callV (pc' := 193) (a := x187) (Wd := 0) (as := [(.int p4), (.long p5), (.long (1 : Int64))]) (rest := []) (wd20 hw) (wd21 hw) (wd23 hw) (wd23 hw) (wd22 hw) (((((((E191.kq K205).kq K207).kq K226).kq K228).kq K257).kq K280).kq K300) ((c_set2 hw x187 p4 p5 1 1 (by decide) (Or.inr ⟨by decide, rfl⟩) s258 t259 l260 _ _ _ (As272.kq K300 (fun _ => (not_or.mpr ⟨(nwb (gtne (((((E191.kq K205).kq K207).kq K226).kq K228).kq K257).lt gs262)), (nwb (gtne (((E212.kq K226).kq K228).kq K257).lt gs262))⟩))) (At273.kq K300 (fun _ => (not_or.mpr ⟨(nwb (gtne (((((E191.kq K205).kq K207).kq K226).kq K228).kq K257).lt gt263)), (nwb (gtne (((E212.kq K226).kq K228).kq K257).lt gt263))⟩))) (Al274.kq K300 (fun _ => (not_or.mpr ⟨(nwb (gtne (((((E191.kq K205).kq K207).kq K226).kq K228).kq K257).lt gl264)), (nwb (gtne (((E212.kq K226).kq K228).kq K257).lt gl264))⟩))) n1265 n2266 n3267 (Nat.le_trans (Nat.le_trans E0.1 (Nat.le_trans (Nat.le_trans (Nat.le_trans (Nat.le_trans (Nat.le_trans (Nat.le_trans (Nat.le_refl _) K186.1) K205.1) K207.1) K226.1) K228.1) K257.1)) gs262) (Nat.le_trans (Nat.le_trans E0.1 (Nat.le_trans (Nat.le_trans (Nat.le_trans (Nat.le_trans (Nat.le_trans (Nat.le_trans (Nat.le_refl _) K186.1) K205.1) K207.1) K226.1) K228.1) K257.1)) gt263) (Nat.le_trans (Nat.le_trans E0.1 (Nat.le_trans (Nat.le_trans (Nat.le_trans (Nat.le_trans (Nat.le_trans (Nat.le_trans (Nat.le_refl _) K186.1) K205.1) K207.1) K226.1) K228.1) K257.1)) gl264) (((((((E191.kq K205).kq K207).kq K226).kq K228).kq K257).kq K280).kq K300) F287 F288 F289 F290 g190).pay (wd24 hw) (wd2 hw) (by decide) (by decide)) (hlen := lenOf pd8 rfl) (hd := at_190) (hst := rfl) (hW := Nat.le_of_eq rfl) (hsz := rfl) (hc1 := Nat.le_of_ble_eq_true rfl) (hl1 := Nat.le_of_ble_eq_true rfl) (hv := (Fw.up (fun y q => Or.inl (by rcases q with rfl | rfl | rfl | rfl; exact g189; exact (Nat.le_trans (Nat.le_trans (Nat.le_trans (Nat.le_trans (Nat.le_trans (Nat.le_trans (Nat.le_trans (Nat.le_refl _) K186.1) K205.1) K207.1) K226.1) K228.1) K257.1) gs262); exact (Nat.le_trans (Nat.le_trans (Nat.le_trans (Nat.le_trans (Nat.le_trans (Nat.le_trans (Nat.le_trans (Nat.le_refl _) K186.1) K205.1) K207.1) K226.1) K228.1) K257.1) gt263); exact (Nat.le_trans (Nat.le_trans (Nat.le_trans (Nat.le_trans (Nat.le_trans (Nat.le_trans (Nat.le_trans (Nat.le_refl _) K186.1) K205.1) K207.1) K226.1) K228.1) K257.1) gl264))))) (kk := fun v328 h332 Ts329 Li330 q331 K333 => ?_)
      obtain ⟨⟨rfl, rfl, rfl⟩, F325, F326, F327⟩ := q331
      show Walk _ _ _ _ _ _ _ _ _ _ _ _ _ _ 12 80 193 _ []
      refine Walk.aload (pc' := 195) at_193 rfl rfl ?_
      refine Walk.callV (pc' := 198) (a := x187) (Wd := 0) (as := []) (rest := []) (wd55 hw) (wd56 hw) (wd58 hw) (wd58 hw) (wd57 hw) ((((((((E191.kq K205).kq K207).kq K226).kq K228).kq K257).kq K280).kq K300).kq K333) ((c_foot8 hw x187 s258 _ F326 (F287.kq K333 (not_or.mpr ⟨(nws (slot_ne (a0 := a0) (Or.inl (wd12 hw)) (Or.inl (wd26 hw)) (by decide) (t := (.array .int)) (by decide) (t' := .int) (by decide))), (not_or.mpr ⟨(nw (ltne (((((E191.kq K205).kq K207).kq K226).kq K228).kq K257).lt gs262)), (not_or.mpr ⟨(nw (ltne (((((E191.kq K205).kq K207).kq K226).kq K228).kq K257).lt gt263)), (nw (ltne (((((E191.kq K205).kq K207).kq K226).kq K228).kq K257).lt gl264))⟩)⟩)⟩))).pay (wd59 hw) (wd2 hw) (by decide) (by decide)) (hlen := lenOf pd9 rfl) (hd := at_195) (hst := rfl) (hW := Nat.le_of_eq rfl) (hsz := rfl) (hc1 := Nat.le_of_ble_eq_true rfl) (hl1 := Nat.le_of_ble_eq_true rfl) (hv := Fw.upN) (kk := fun v334 h338 Ts335 Li336 q337 K339 => ?_)
      obtain ⟨rfl, rfl, rfl, rfl⟩ := q337
      show Walk _ _ _ _ _ _ _ _ _ _ _ _ _ _ 12 80 198 _ [(.long (128 : Int64))]
      refine Walk.ldcJ (pc' := 201) (wd80 hw) at_198 ?_
      refine Walk.lcmp (pc' := 202) at_201 ?_
      refine Walk.ifNo (pc' := 205) at_202 (XT.ll_ne_f rfl) ?_
      refine Walk.iconst (pc' := 206) (1 : Int32) at_205 rfl ?_
      refine Walk.goto (pc' := 210) at_206 ?_
      refine Walk.istore (pc' := 212) (Ls' := #[.val (.int p0), .val (.long p1), .second, .val (.int p2), .val (.long p3), .second, .val (.int p4), .val (.long p5), .second, .val (.ref x187), .val (.ref x208), .val (.ref x229), .val (.long (128 : Int64)), .second, .val (.int (1 : Int32))]) at_210 rfl ?_
      refine Walk.iload (pc' := 214) at_212 rfl ?_
      refine Walk.ifNo (pc' := 217) at_214 (XT.i0_eq_f (by decide)) ?_
      refine Walk.aload (pc' := 219) at_217 rfl rfl ?_
      refine Walk.iload (pc' := 221) at_219 rfl ?_
      refine Walk.aload (pc' := 223) at_221 rfl rfl ?_
      refine Walk.aconstNull (pc' := 224) at_223 ?_
      refine Walk.callV (pc' := 227) (a := x187) (Wd := 0) (as := [(.int p4), (.ref x229), .null]) (rest := []) (wd66 hw) (wd67 hw) (wd69 hw) (wd69 hw) (wd68 hw) ((((((((E191.kq K205).kq K207).kq K226).kq K228).kq K257).kq K280).kq K300).kq K333) ((c_ce1 hw x187 s258 l260 x229 p4 _ _ _ _ F326 F327 ((((A233.kq K257 (fun _ => (nwb (gtne (((E191.kq K205).kq K207).kq K226).lt g230)))).kq K280 (fun _ => (nwb (gtne (E212.kq K226).lt g230)))).kq K300 (fun _ => (not_or.mpr ⟨(nwb (gtne (((E191.kq K205).kq K207).kq K226).lt g230)), (nwb (gtne (E212.kq K226).lt g230))⟩))).kq K333 (fun _ => (not_or.mpr ⟨(nw (gtne (((E191.kq K205).kq K207).kq K226).lt g230)), (not_or.mpr ⟨(nw (ltne (A233.kq K257 (fun _ => (nwb (gtne (((E191.kq K205).kq K207).kq K226).lt g230)))).lt gs262)), (not_or.mpr ⟨(nw (ltne (A233.kq K257 (fun _ => (nwb (gtne (((E191.kq K205).kq K207).kq K226).lt g230)))).lt gt263)), (nw (ltne (A233.kq K257 (fun _ => (nwb (gtne (((E191.kq K205).kq K207).kq K226).lt g230)))).lt gl264))⟩)⟩)⟩))) (F287.kq K333 (not_or.mpr ⟨(nws (slot_ne (a0 := a0) (Or.inl (wd12 hw)) (Or.inl (wd26 hw)) (by decide) (t := (.array .int)) (by decide) (t' := .int) (by decide))), (not_or.mpr ⟨(nw (ltne (((((E191.kq K205).kq K207).kq K226).kq K228).kq K257).lt gs262)), (not_or.mpr ⟨(nw (ltne (((((E191.kq K205).kq K207).kq K226).kq K228).kq K257).lt gt263)), (nw (ltne (((((E191.kq K205).kq K207).kq K226).kq K228).kq K257).lt gl264))⟩)⟩)⟩)) (F289.kq K333 (not_or.mpr ⟨(nws (slot_ne (a0 := a0) (Or.inl (wd18 hw)) (Or.inl (wd26 hw)) (by decide) (t := (.array .int)) (by decide) (t' := .int) (by decide))), (not_or.mpr ⟨(nw (ltne (((((E191.kq K205).kq K207).kq K226).kq K228).kq K257).lt gs262)), (not_or.mpr ⟨(nw (ltne (((((E191.kq K205).kq K207).kq K226).kq K228).kq K257).lt gt263)), (nw (ltne (((((E191.kq K205).kq K207).kq K226).kq K228).kq K257).lt gl264))⟩)⟩)⟩)) F325 rfl rfl (by decide)).pay (wd70 hw) (wd2 hw) (by decide) (by decide)) (hlen := lenOf pd11 rfl) (hd := at_224) (hst := rfl) (hW := Nat.le_of_eq rfl) (hsz := rfl) (hc1 := Nat.le_of_ble_eq_true rfl) (hl1 := Nat.le_of_ble_eq_true rfl) (hv := Fw.upN) (kk := fun v340 h344 Ts341 Li342 q343 K345 => ?_)
      obtain ⟨rfl, rfl, rfl, rfl⟩ := q343
      show Walk _ _ _ _ _ _ _ _ _ _ _ _ _ _ 12 80 227 _ [(.int (0 : Int32))]
      refine Walk.ifNo (pc' := 230) at_227 (XT.i0_ne_f rfl) ?_
      refine Walk.iconst (pc' := 231) (1 : Int32) at_230 rfl ?_
      refine Walk.goto (pc' := 235) at_231 ?_
      refine Walk.istore (pc' := 237) (Ls' := #[.val (.int p0), .val (.long p1), .second, .val (.int p2), .val (.long p3), .second, .val (.int p4), .val (.long p5), .second, .val (.ref x187), .val (.ref x208), .val (.ref x229), .val (.long (128 : Int64)), .second, .val (.int (1 : Int32))]) at_235 rfl ?_
      refine Walk.iload (pc' := 239) at_237 rfl ?_
      exact Walk.nret at_239 rfl (by simp) ⟨rfl, rfl⟩ (fun _ q => q) (Nat.le_of_ble_eq_true rfl) (Nat.le_of_ble_eq_true rfl)
    · skip
      refine Walk.callV (pc' := 42) (a := x208) (Wd := 0) (as := [(.int p2), (.long p5), (.long p3)]) (rest := []) (wd20 hw) (wd21 hw) (wd23 hw) (wd23 hw) (wd22 hw) (((E212.kq K226).kq K228).kq K257) ((c_set0 hw x208 p2 p5 p3 h3 (((F217.kq K226 (not_or.mpr ⟨(nws (slot_ne (a0 := a0) (Or.inl (wd26 hw)) (Or.inl (wd12 hw)) (by decide) (t := .int) (by decide) (t' := (.array .int)) (by decide))), (not_or.mpr ⟨(nws (slot_ne (a0 := a0) (Or.inl (wd26 hw)) (Or.inl (wd16 hw)) (by decide) (t := .int) (by decide) (t' := (.array .long)) (by decide))), (nws (slot_ne (a0 := a0) (Or.inl (wd26 hw)) (Or.inl (wd18 hw)) (by decide) (t := .int) (by decide) (t' := (.array .int)) (by decide)))⟩)⟩)).kq K228 (fun q => q)).kq K257 (nwb (gtne (E191.kq K205).lt g209)))).pay (wd24 hw) (wd2 hw) (by decide) (by decide)) (hlen := lenOf pd8 rfl) (hd := at_39) (hst := rfl) (hW := Nat.le_of_eq rfl) (hsz := rfl) (hc1 := Nat.le_of_ble_eq_true rfl) (hl1 := Nat.le_of_ble_eq_true rfl) (hv := Fw.upN) (kk := fun v346 h350 Ts347 Li348 q349 K351 => ?_)
      obtain ⟨rfl, rfl, rfl, rfl⟩ := q349
      show Walk _ _ _ _ _ _ _ _ _ _ _ _ _ _ 9 56 42 _ []
      refine Walk.aload (pc' := 44) at_42 rfl rfl ?_
      refine Walk.callV (pc' := 47) (a := x208) (Wd := 0) (as := []) (rest := []) (wd55 hw) (wd56 hw) (wd58 hw) (wd58 hw) (wd57 hw) (((E212.kq K226).kq K228).kq K257) ((c_foot0 hw x208 ni _ ((((((A1.kq K186 (fun _ => (fun q => q))).kq K205 (fun _ => (not_or.mpr ⟨(nw (ltne A1.lt g188)), (not_or.mpr ⟨(nw (ltne A1.lt g188)), (nw (ltne A1.lt g188))⟩)⟩))).kq K207 (fun _ => (fun q => q))).kq K226 (fun _ => (not_or.mpr ⟨(nw (ltne ((A1.kq K186 (fun _ => (fun q => q))).kq K205 (fun _ => (not_or.mpr ⟨(nw (ltne A1.lt g188)), (not_or.mpr ⟨(nw (ltne A1.lt g188)), (nw (ltne A1.lt g188))⟩)⟩))).lt g209)), (not_or.mpr ⟨(nw (ltne ((A1.kq K186 (fun _ => (fun q => q))).kq K205 (fun _ => (not_or.mpr ⟨(nw (ltne A1.lt g188)), (not_or.mpr ⟨(nw (ltne A1.lt g188)), (nw (ltne A1.lt g188))⟩)⟩))).lt g209)), (nw (ltne ((A1.kq K186 (fun _ => (fun q => q))).kq K205 (fun _ => (not_or.mpr ⟨(nw (ltne A1.lt g188)), (not_or.mpr ⟨(nw (ltne A1.lt g188)), (nw (ltne A1.lt g188))⟩)⟩))).lt g209))⟩)⟩))).kq K228 (fun _ => (fun q => q))).kq K257 (fun _ => (nwb (ltne A1.lt g188)))) ((F218.kq K228 (fun q => q)).kq K257 (nwb (gtne (E191.kq K205).lt g209)))).pay (wd59 hw) (wd2 hw) (by decide) (by decide)) (hlen := lenOf pd9 rfl) (hd := at_44) (hst := rfl) (hW := Nat.le_of_eq rfl) (hsz := rfl) (hc1 := Nat.le_of_ble_eq_true rfl) (hl1 := Nat.le_of_ble_eq_true rfl) (hv := Fw.upN) (kk := fun v352 h356 Ts353 Li354 q355 K357 => ?_)
      obtain ⟨rfl, rfl, rfl, rfl⟩ := q355
      show Walk _ _ _ _ _ _ _ _ _ _ _ _ _ _ 9 56 47 _ [(.long (0 : Int64))]
      refine Walk.lstore (pc' := 49) (Ls' := #[.val (.int p0), .val (.long p1), .second, .val (.int p2), .val (.long p3), .second, .val (.int p4), .val (.long p5), .second, .val (.ref x187), .val (.ref x208), .val (.ref x229), .val (.long (0 : Int64)), .second, .unset]) at_47 rfl ?_
      refine Walk.aload (pc' := 51) at_49 rfl rfl ?_
      refine Walk.aload (pc' := 53) at_51 rfl rfl ?_
      refine Walk.callV (pc' := 56) (a := x187) (Wd := 0) (as := [(.ref x208)]) (rest := []) (wd61 hw) (wd62 hw) (wd64 hw) (wd64 hw) (wd63 hw) (((((E191.kq K205).kq K207).kq K226).kq K228).kq K257) ((c_take hw x187 x208 ni nl ni _ _ _ _ _ ni nl S1 S2 (ltne (E191.kq K205).lt g209) (((((E191.kq K205).kq K207).kq K226).kq K228).kq K257) (((E212.kq K226).kq K228).kq K257) F1245 F2246 F3247 F4248 ((F218.kq K228 (fun q => q)).kq K257 (nwb (gtne (E191.kq K205).lt g209))) ((F219.kq K228 (fun q => q)).kq K257 (nwb (gtne (E191.kq K205).lt g209))) ((F220.kq K228 (fun q => q)).kq K257 (nwb (gtne (E191.kq K205).lt g209))) (((F217.kq K226 (not_or.mpr ⟨(nws (slot_ne (a0 := a0) (Or.inl (wd26 hw)) (Or.inl (wd12 hw)) (by decide) (t := .int) (by decide) (t' := (.array .int)) (by decide))), (not_or.mpr ⟨(nws (slot_ne (a0 := a0) (Or.inl (wd26 hw)) (Or.inl (wd16 hw)) (by decide) (t := .int) (by decide) (t' := (.array .long)) (by decide))), (nws (slot_ne (a0 := a0) (Or.inl (wd26 hw)) (Or.inl (wd18 hw)) (by decide) (t := .int) (by decide) (t' := (.array .int)) (by decide)))⟩)⟩)).kq K228 (fun q => q)).kq K257 (nwb (gtne (E191.kq K205).lt g209))) g190 g211).pay (wd65 hw) (wd2 hw) (by decide) (by decide)) (hlen := lenOf pd10 rfl) (hd := at_53) (hst := rfl) (hW := Nat.le_of_eq rfl) (hsz := rfl) (hc1 := Nat.le_of_ble_eq_true rfl) (hl1 := Nat.le_of_ble_eq_true rfl) (hv := (Fw.up (fun y q => Or.inl (q.elim (fun q => q ▸ g189) (fun q => q ▸ g210))))) (kk := fun v366 h370 Ts367 Li368 q369 K371 => ?_)
      obtain ⟨⟨rfl, rfl, rfl⟩, F358, F359, F360, F361, F362, F363, F364, F365⟩ := q369
      show Walk _ _ _ _ _ _ _ _ _ _ _ _ _ _ 9 56 56 _ []
      refine Walk.lload (pc' := 58) at_56 rfl ?_
      refine Walk.lload (pc' := 60) at_58 rfl ?_
      refine Walk.lconst (pc' := 61) (0 : Int64) at_60 rfl ?_
      refine Walk.lcmp (pc' := 62) at_61 ?_
      refine Walk.ifYes (pc' := 71) at_62 (XT.ll_le_t h3) ?_
      refine Walk.lconst (pc' := 72) (0 : Int64) at_71 rfl ?_
      refine Walk.lcmp (pc' := 73) at_72 ?_
      refine Walk.ifNo (pc' := 76) at_73 (XT.ll_ne_f rfl) ?_
      refine Walk.iconst (pc' := 77) (1 : Int32) at_76 rfl ?_
      refine Walk.goto (pc' := 81) at_77 ?_
      refine Walk.istore (pc' := 83) (Ls' := #[.val (.int p0), .val (.long p1), .second, .val (.int p2), .val (.long p3), .second, .val (.int p4), .val (.long p5), .second, .val (.ref x187), .val (.ref x208), .val (.ref x229), .val (.long (0 : Int64)), .second, .val (.int (1 : Int32))]) at_81 rfl ?_
      refine Walk.iload (pc' := 85) at_83 rfl ?_
      refine Walk.ifNo (pc' := 88) at_85 (XT.i0_eq_f (by decide)) ?_
      refine Walk.aload (pc' := 90) at_88 rfl rfl ?_
      refine Walk.callV (pc' := 93) (a := x187) (Wd := 0) (as := []) (rest := []) (wd55 hw) (wd56 hw) (wd58 hw) (wd58 hw) (wd57 hw) ((((((E191.kq K205).kq K207).kq K226).kq K228).kq K257).kq K371) ((c_foot0 hw x187 ni _ (((((((A1.kq K186 (fun _ => (fun q => q))).kq K205 (fun _ => (not_or.mpr ⟨(nw (ltne A1.lt g188)), (not_or.mpr ⟨(nw (ltne A1.lt g188)), (nw (ltne A1.lt g188))⟩)⟩))).kq K207 (fun _ => (fun q => q))).kq K226 (fun _ => (not_or.mpr ⟨(nw (ltne ((A1.kq K186 (fun _ => (fun q => q))).kq K205 (fun _ => (not_or.mpr ⟨(nw (ltne A1.lt g188)), (not_or.mpr ⟨(nw (ltne A1.lt g188)), (nw (ltne A1.lt g188))⟩)⟩))).lt g209)), (not_or.mpr ⟨(nw (ltne ((A1.kq K186 (fun _ => (fun q => q))).kq K205 (fun _ => (not_or.mpr ⟨(nw (ltne A1.lt g188)), (not_or.mpr ⟨(nw (ltne A1.lt g188)), (nw (ltne A1.lt g188))⟩)⟩))).lt g209)), (nw (ltne ((A1.kq K186 (fun _ => (fun q => q))).kq K205 (fun _ => (not_or.mpr ⟨(nw (ltne A1.lt g188)), (not_or.mpr ⟨(nw (ltne A1.lt g188)), (nw (ltne A1.lt g188))⟩)⟩))).lt g209))⟩)⟩))).kq K228 (fun _ => (fun q => q))).kq K257 (fun _ => (nwb (ltne A1.lt g188)))).kq K371 (fun _ => (not_or.mpr ⟨(nwb (ltne A1.lt g188)), (nwb (ltne ((A1.kq K186 (fun _ => (fun q => q))).kq K205 (fun _ => (not_or.mpr ⟨(nw (ltne A1.lt g188)), (not_or.mpr ⟨(nw (ltne A1.lt g188)), (nw (ltne A1.lt g188))⟩)⟩))).lt g209))⟩))) F358).pay (wd59 hw) (wd2 hw) (by decide) (by decide)) (hlen := lenOf pd9 rfl) (hd := at_90) (hst := rfl) (hW := Nat.le_of_eq rfl) (hsz := rfl) (hc1 := Nat.le_of_ble_eq_true rfl) (hl1 := Nat.le_of_ble_eq_true rfl) (hv := Fw.upN) (kk := fun v372 h376 Ts373 Li374 q375 K377 => ?_)
      obtain ⟨rfl, rfl, rfl, rfl⟩ := q375
      show Walk _ _ _ _ _ _ _ _ _ _ _ _ _ _ 9 56 93 _ [(.long (0 : Int64))]
      refine Walk.lload (pc' := 95) at_93 rfl ?_
      refine Walk.lcmp (pc' := 96) at_95 ?_
      refine Walk.ifNo (pc' := 99) at_96 (XT.ll_ne_f rfl) ?_
      refine Walk.iconst (pc' := 100) (1 : Int32) at_99 rfl ?_
      refine Walk.goto (pc' := 104) at_100 ?_
      refine Walk.istore (pc' := 106) (Ls' := #[.val (.int p0), .val (.long p1), .second, .val (.int p2), .val (.long p3), .second, .val (.int p4), .val (.long p5), .second, .val (.ref x187), .val (.ref x208), .val (.ref x229), .val (.long (0 : Int64)), .second, .val (.int (1 : Int32))]) at_104 rfl ?_
      refine Walk.iload (pc' := 108) at_106 rfl ?_
      refine Walk.ifNo (pc' := 111) at_108 (XT.i0_eq_f (by decide)) ?_
      refine Walk.aload (pc' := 113) at_111 rfl rfl ?_
      refine Walk.callV (pc' := 116) (a := x208) (Wd := 0) (as := []) (rest := []) (wd55 hw) (wd56 hw) (wd58 hw) (wd58 hw) (wd57 hw) ((((E212.kq K226).kq K228).kq K257).kq K371) ((c_foot0 hw x208 ni _ (((((((A1.kq K186 (fun _ => (fun q => q))).kq K205 (fun _ => (not_or.mpr ⟨(nw (ltne A1.lt g188)), (not_or.mpr ⟨(nw (ltne A1.lt g188)), (nw (ltne A1.lt g188))⟩)⟩))).kq K207 (fun _ => (fun q => q))).kq K226 (fun _ => (not_or.mpr ⟨(nw (ltne ((A1.kq K186 (fun _ => (fun q => q))).kq K205 (fun _ => (not_or.mpr ⟨(nw (ltne A1.lt g188)), (not_or.mpr ⟨(nw (ltne A1.lt g188)), (nw (ltne A1.lt g188))⟩)⟩))).lt g209)), (not_or.mpr ⟨(nw (ltne ((A1.kq K186 (fun _ => (fun q => q))).kq K205 (fun _ => (not_or.mpr ⟨(nw (ltne A1.lt g188)), (not_or.mpr ⟨(nw (ltne A1.lt g188)), (nw (ltne A1.lt g188))⟩)⟩))).lt g209)), (nw (ltne ((A1.kq K186 (fun _ => (fun q => q))).kq K205 (fun _ => (not_or.mpr ⟨(nw (ltne A1.lt g188)), (not_or.mpr ⟨(nw (ltne A1.lt g188)), (nw (ltne A1.lt g188))⟩)⟩))).lt g209))⟩)⟩))).kq K228 (fun _ => (fun q => q))).kq K257 (fun _ => (nwb (ltne A1.lt g188)))).kq K371 (fun _ => (not_or.mpr ⟨(nwb (ltne A1.lt g188)), (nwb (ltne ((A1.kq K186 (fun _ => (fun q => q))).kq K205 (fun _ => (not_or.mpr ⟨(nw (ltne A1.lt g188)), (not_or.mpr ⟨(nw (ltne A1.lt g188)), (nw (ltne A1.lt g188))⟩)⟩))).lt g209))⟩))) F362).pay (wd59 hw) (wd2 hw) (by decide) (by decide)) (hlen := lenOf pd9 rfl) (hd := at_113) (hst := rfl) (hW := Nat.le_of_eq rfl) (hsz := rfl) (hc1 := Nat.le_of_ble_eq_true rfl) (hl1 := Nat.le_of_ble_eq_true rfl) (hv := Fw.upN) (kk := fun v378 h382 Ts379 Li380 q381 K383 => ?_)
      obtain ⟨rfl, rfl, rfl, rfl⟩ := q381
      show Walk _ _ _ _ _ _ _ _ _ _ _ _ _ _ 9 56 116 _ [(.long (0 : Int64))]
      refine Walk.lconst (pc' := 117) (0 : Int64) at_116 rfl ?_
      refine Walk.lcmp (pc' := 118) at_117 ?_
      refine Walk.ifNo (pc' := 121) at_118 (XT.ll_ne_f rfl) ?_
      refine Walk.iconst (pc' := 122) (1 : Int32) at_121 rfl ?_
      refine Walk.goto (pc' := 126) at_122 ?_
      refine Walk.istore (pc' := 128) (Ls' := #[.val (.int p0), .val (.long p1), .second, .val (.int p2), .val (.long p3), .second, .val (.int p4), .val (.long p5), .second, .val (.ref x187), .val (.ref x208), .val (.ref x229), .val (.long (0 : Int64)), .second, .val (.int (1 : Int32))]) at_126 rfl ?_
      refine Walk.iload (pc' := 130) at_128 rfl ?_
      refine Walk.ifNo (pc' := 133) at_130 (XT.i0_eq_f (by decide)) ?_
      refine Walk.aload (pc' := 135) at_133 rfl rfl ?_
      refine Walk.iloadN (pc' := 136) at_135 rfl ?_
      refine Walk.aload (pc' := 138) at_136 rfl rfl ?_
      refine Walk.aconstNull (pc' := 139) at_138 ?_
      refine Walk.callV (pc' := 142) (a := x187) (Wd := 0) (as := [(.int p2), (.ref x229), .null]) (rest := []) (wd66 hw) (wd67 hw) (wd69 hw) (wd69 hw) (wd68 hw) ((((((E191.kq K205).kq K207).kq K226).kq K228).kq K257).kq K371) ((c_ce0 hw x187 ni x229 p2 _ _ 0 (((((((A1.kq K186 (fun _ => (fun q => q))).kq K205 (fun _ => (not_or.mpr ⟨(nw (ltne A1.lt g188)), (not_or.mpr ⟨(nw (ltne A1.lt g188)), (nw (ltne A1.lt g188))⟩)⟩))).kq K207 (fun _ => (fun q => q))).kq K226 (fun _ => (not_or.mpr ⟨(nw (ltne ((A1.kq K186 (fun _ => (fun q => q))).kq K205 (fun _ => (not_or.mpr ⟨(nw (ltne A1.lt g188)), (not_or.mpr ⟨(nw (ltne A1.lt g188)), (nw (ltne A1.lt g188))⟩)⟩))).lt g209)), (not_or.mpr ⟨(nw (ltne ((A1.kq K186 (fun _ => (fun q => q))).kq K205 (fun _ => (not_or.mpr ⟨(nw (ltne A1.lt g188)), (not_or.mpr ⟨(nw (ltne A1.lt g188)), (nw (ltne A1.lt g188))⟩)⟩))).lt g209)), (nw (ltne ((A1.kq K186 (fun _ => (fun q => q))).kq K205 (fun _ => (not_or.mpr ⟨(nw (ltne A1.lt g188)), (not_or.mpr ⟨(nw (ltne A1.lt g188)), (nw (ltne A1.lt g188))⟩)⟩))).lt g209))⟩)⟩))).kq K228 (fun _ => (fun q => q))).kq K257 (fun _ => (nwb (ltne A1.lt g188)))).kq K371 (fun _ => (not_or.mpr ⟨(nwb (ltne A1.lt g188)), (nwb (ltne ((A1.kq K186 (fun _ => (fun q => q))).kq K205 (fun _ => (not_or.mpr ⟨(nw (ltne A1.lt g188)), (not_or.mpr ⟨(nw (ltne A1.lt g188)), (nw (ltne A1.lt g188))⟩)⟩))).lt g209))⟩))) ((A233.kq K257 (fun _ => (nwb (gtne (((E191.kq K205).kq K207).kq K226).lt g230)))).kq K371 (fun _ => (not_or.mpr ⟨(nwb (gtne (((E191.kq K205).kq K207).kq K226).lt g230)), (nwb (gtne (E212.kq K226).lt g230))⟩))) F358 F361).pay (wd70 hw) (wd2 hw) (by decide) (by decide)) (hlen := lenOf pd11 rfl) (hd := at_139) (hst := rfl) (hW := Nat.le_of_eq rfl) (hsz := rfl) (hc1 := Nat.le_of_ble_eq_true rfl) (hl1 := Nat.le_of_ble_eq_true rfl) (hv := Fw.upN) (kk := fun v384 h388 Ts385 Li386 q387 K389 => ?_)
      obtain ⟨rfl, rfl, rfl, rfl⟩ := q387
      show Walk _ _ _ _ _ _ _ _ _ _ _ _ _ _ 9 56 142 _ [(.int (1 : Int32))]
      refine Walk.ifNo (pc' := 145) at_142 (XT.i0_eq_f (by decide)) ?_
      refine Walk.iconst (pc' := 146) (1 : Int32) at_145 rfl ?_
      refine Walk.goto (pc' := 150) at_146 ?_
      refine Walk.istore (pc' := 152) (Ls' := #[.val (.int p0), .val (.long p1), .second, .val (.int p2), .val (.long p3), .second, .val (.int p4), .val (.long p5), .second, .val (.ref x187), .val (.ref x208), .val (.ref x229), .val (.long (0 : Int64)), .second, .val (.int (1 : Int32))]) at_150 rfl ?_
      refine Walk.iload (pc' := 154) at_152 rfl ?_
      refine Walk.ifNo (pc' := 157) at_154 (XT.i0_eq_f (by decide)) ?_
      refine Walk.aload (pc' := 159) at_157 rfl rfl ?_
      refine Walk.iloadN (pc' := 160) at_159 rfl ?_
      refine Walk.aload (pc' := 162) at_160 rfl rfl ?_
      refine Walk.aconstNull (pc' := 163) at_162 ?_
      refine Walk.callV (pc' := 166) (a := x208) (Wd := 0) (as := [(.int p2), (.ref x229), .null]) (rest := []) (wd66 hw) (wd67 hw) (wd69 hw) (wd69 hw) (wd68 hw) ((((E212.kq K226).kq K228).kq K257).kq K371) ((c_ce0 hw x208 ni x229 p2 _ _ 0 (((((((A1.kq K186 (fun _ => (fun q => q))).kq K205 (fun _ => (not_or.mpr ⟨(nw (ltne A1.lt g188)), (not_or.mpr ⟨(nw (ltne A1.lt g188)), (nw (ltne A1.lt g188))⟩)⟩))).kq K207 (fun _ => (fun q => q))).kq K226 (fun _ => (not_or.mpr ⟨(nw (ltne ((A1.kq K186 (fun _ => (fun q => q))).kq K205 (fun _ => (not_or.mpr ⟨(nw (ltne A1.lt g188)), (not_or.mpr ⟨(nw (ltne A1.lt g188)), (nw (ltne A1.lt g188))⟩)⟩))).lt g209)), (not_or.mpr ⟨(nw (ltne ((A1.kq K186 (fun _ => (fun q => q))).kq K205 (fun _ => (not_or.mpr ⟨(nw (ltne A1.lt g188)), (not_or.mpr ⟨(nw (ltne A1.lt g188)), (nw (ltne A1.lt g188))⟩)⟩))).lt g209)), (nw (ltne ((A1.kq K186 (fun _ => (fun q => q))).kq K205 (fun _ => (not_or.mpr ⟨(nw (ltne A1.lt g188)), (not_or.mpr ⟨(nw (ltne A1.lt g188)), (nw (ltne A1.lt g188))⟩)⟩))).lt g209))⟩)⟩))).kq K228 (fun _ => (fun q => q))).kq K257 (fun _ => (nwb (ltne A1.lt g188)))).kq K371 (fun _ => (not_or.mpr ⟨(nwb (ltne A1.lt g188)), (nwb (ltne ((A1.kq K186 (fun _ => (fun q => q))).kq K205 (fun _ => (not_or.mpr ⟨(nw (ltne A1.lt g188)), (not_or.mpr ⟨(nw (ltne A1.lt g188)), (nw (ltne A1.lt g188))⟩)⟩))).lt g209))⟩))) ((A233.kq K257 (fun _ => (nwb (gtne (((E191.kq K205).kq K207).kq K226).lt g230)))).kq K371 (fun _ => (not_or.mpr ⟨(nwb (gtne (((E191.kq K205).kq K207).kq K226).lt g230)), (nwb (gtne (E212.kq K226).lt g230))⟩))) F362 F365).pay (wd70 hw) (wd2 hw) (by decide) (by decide)) (hlen := lenOf pd11 rfl) (hd := at_163) (hst := rfl) (hW := Nat.le_of_eq rfl) (hsz := rfl) (hc1 := Nat.le_of_ble_eq_true rfl) (hl1 := Nat.le_of_ble_eq_true rfl) (hv := Fw.upN) (kk := fun v390 h394 Ts391 Li392 q393 K395 => ?_)
      obtain ⟨rfl, rfl, rfl, rfl⟩ := q393
      show Walk _ _ _ _ _ _ _ _ _ _ _ _ _ _ 9 56 166 _ [(.int (1 : Int32))]
      refine Walk.ifNo (pc' := 169) at_166 (XT.i0_eq_f (by decide)) ?_
      refine Walk.iconst (pc' := 170) (1 : Int32) at_169 rfl ?_
      refine Walk.goto (pc' := 174) at_170 ?_
      refine Walk.istore (pc' := 176) (Ls' := #[.val (.int p0), .val (.long p1), .second, .val (.int p2), .val (.long p3), .second, .val (.int p4), .val (.long p5), .second, .val (.ref x187), .val (.ref x208), .val (.ref x229), .val (.long (0 : Int64)), .second, .val (.int (1 : Int32))]) at_174 rfl ?_
      refine Walk.iload (pc' := 178) at_176 rfl ?_
      refine Walk.ifYes (pc' := 183) at_178 (XT.i0_ne_t (by decide)) ?_
      refine Walk.aload (pc' := 185) at_183 rfl rfl ?_
      refine Walk.iload (pc' := 187) at_185 rfl ?_
      refine Walk.lload (pc' := 189) at_187 rfl ?_
      refine Walk.lconst (pc' := 190) (1 : Int64) at_189 rfl ?_
      refine Walk.callV (pc' := 193) (a := x187) (Wd := 0) (as := [(.int p4), (.long p5), (.long (1 : Int64))]) (rest := []) (wd20 hw) (wd21 hw) (wd23 hw) (wd23 hw) (wd22 hw) ((((((E191.kq K205).kq K207).kq K226).kq K228).kq K257).kq K371) ((c_set1 hw x187 p4 p5 1 1 (by decide) (Or.inr ⟨by decide, rfl⟩) ni nl _ _ (((((((A1.kq K186 (fun _ => (fun q => q))).kq K205 (fun _ => (not_or.mpr ⟨(nw (ltne A1.lt g188)), (not_or.mpr ⟨(nw (ltne A1.lt g188)), (nw (ltne A1.lt g188))⟩)⟩))).kq K207 (fun _ => (fun q => q))).kq K226 (fun _ => (not_or.mpr ⟨(nw (ltne ((A1.kq K186 (fun _ => (fun q => q))).kq K205 (fun _ => (not_or.mpr ⟨(nw (ltne A1.lt g188)), (not_or.mpr ⟨(nw (ltne A1.lt g188)), (nw (ltne A1.lt g188))⟩)⟩))).lt g209)), (not_or.mpr ⟨(nw (ltne ((A1.kq K186 (fun _ => (fun q => q))).kq K205 (fun _ => (not_or.mpr ⟨(nw (ltne A1.lt g188)), (not_or.mpr ⟨(nw (ltne A1.lt g188)), (nw (ltne A1.lt g188))⟩)⟩))).lt g209)), (nw (ltne ((A1.kq K186 (fun _ => (fun q => q))).kq K205 (fun _ => (not_or.mpr ⟨(nw (ltne A1.lt g188)), (not_or.mpr ⟨(nw (ltne A1.lt g188)), (nw (ltne A1.lt g188))⟩)⟩))).lt g209))⟩)⟩))).kq K228 (fun _ => (fun q => q))).kq K257 (fun _ => (nwb (ltne A1.lt g188)))).kq K371 (fun _ => (not_or.mpr ⟨(nwb (ltne A1.lt g188)), (nwb (ltne ((A1.kq K186 (fun _ => (fun q => q))).kq K205 (fun _ => (not_or.mpr ⟨(nw (ltne A1.lt g188)), (not_or.mpr ⟨(nw (ltne A1.lt g188)), (nw (ltne A1.lt g188))⟩)⟩))).lt g209))⟩))) (((((((A2.kq K186 (fun _ => (fun q => q))).kq K205 (fun _ => (not_or.mpr ⟨(nw (ltne A2.lt g188)), (not_or.mpr ⟨(nw (ltne A2.lt g188)), (nw (ltne A2.lt g188))⟩)⟩))).kq K207 (fun _ => (fun q => q))).kq K226 (fun _ => (not_or.mpr ⟨(nw (ltne ((A2.kq K186 (fun _ => (fun q => q))).kq K205 (fun _ => (not_or.mpr ⟨(nw (ltne A2.lt g188)), (not_or.mpr ⟨(nw (ltne A2.lt g188)), (nw (ltne A2.lt g188))⟩)⟩))).lt g209)), (not_or.mpr ⟨(nw (ltne ((A2.kq K186 (fun _ => (fun q => q))).kq K205 (fun _ => (not_or.mpr ⟨(nw (ltne A2.lt g188)), (not_or.mpr ⟨(nw (ltne A2.lt g188)), (nw (ltne A2.lt g188))⟩)⟩))).lt g209)), (nw (ltne ((A2.kq K186 (fun _ => (fun q => q))).kq K205 (fun _ => (not_or.mpr ⟨(nw (ltne A2.lt g188)), (not_or.mpr ⟨(nw (ltne A2.lt g188)), (nw (ltne A2.lt g188))⟩)⟩))).lt g209))⟩)⟩))).kq K228 (fun _ => (fun q => q))).kq K257 (fun _ => (nwb (ltne A2.lt g188)))).kq K371 (fun _ => (not_or.mpr ⟨(nwb (ltne A2.lt g188)), (nwb (ltne ((A2.kq K186 (fun _ => (fun q => q))).kq K205 (fun _ => (not_or.mpr ⟨(nw (ltne A2.lt g188)), (not_or.mpr ⟨(nw (ltne A2.lt g188)), (nw (ltne A2.lt g188))⟩)⟩))).lt g209))⟩))) ((((((E191.kq K205).kq K207).kq K226).kq K228).kq K257).kq K371) F358 F359 F360 F361 g190).pay (wd24 hw) (wd2 hw) (by decide) (by decide)) (hlen := lenOf pd8 rfl) (hd := at_190) (hst := rfl) (hW := Nat.le_of_eq rfl) (hsz := rfl) (hc1 := Nat.le_of_ble_eq_true rfl) (hl1 := Nat.le_of_ble_eq_true rfl) (hv := (Fw.up (fun y q => Or.inl (q ▸ g189)))) (kk := fun v413 h417 Ts414 Li415 q416 K418 => ?_)
      obtain ⟨⟨rfl, rfl, rfl⟩, s396, t397, l398, f399, gs400, gt401, gl402, n1403, n2404, n3405, F1406, F2407, F3408, F4409, As410, At411, Al412⟩ := q416
      show Walk _ _ _ _ _ _ _ _ _ _ _ _ _ _ 12 80 193 _ []
      refine Walk.aload (pc' := 195) at_193 rfl rfl ?_
      refine Walk.callV (pc' := 198) (a := x187) (Wd := 0) (as := []) (rest := []) (wd55 hw) (wd56 hw) (wd58 hw) (wd58 hw) (wd57 hw) (((((((E191.kq K205).kq K207).kq K226).kq K228).kq K257).kq K371).kq K418) ((c_foot8 hw x187 s396 _ As410 F1406).pay (wd59 hw) (wd2 hw) (by decide) (by decide)) (hlen := lenOf pd9 rfl) (hd := at_195) (hst := rfl) (hW := Nat.le_of_eq rfl) (hsz := rfl) (hc1 := Nat.le_of_ble_eq_true rfl) (hl1 := Nat.le_of_ble_eq_true rfl) (hv := Fw.upN) (kk := fun v419 h423 Ts420 Li421 q422 K424 => ?_)
      obtain ⟨rfl, rfl, rfl, rfl⟩ := q422
      show Walk _ _ _ _ _ _ _ _ _ _ _ _ _ _ 12 80 198 _ [(.long (128 : Int64))]
      refine Walk.ldcJ (pc' := 201) (wd80 hw) at_198 ?_
      refine Walk.lcmp (pc' := 202) at_201 ?_
      refine Walk.ifNo (pc' := 205) at_202 (XT.ll_ne_f rfl) ?_
      refine Walk.iconst (pc' := 206) (1 : Int32) at_205 rfl ?_
      refine Walk.goto (pc' := 210) at_206 ?_
      refine Walk.istore (pc' := 212) (Ls' := #[.val (.int p0), .val (.long p1), .second, .val (.int p2), .val (.long p3), .second, .val (.int p4), .val (.long p5), .second, .val (.ref x187), .val (.ref x208), .val (.ref x229), .val (.long (0 : Int64)), .second, .val (.int (1 : Int32))]) at_210 rfl ?_
      refine Walk.iload (pc' := 214) at_212 rfl ?_
      refine Walk.ifNo (pc' := 217) at_214 (XT.i0_eq_f (by decide)) ?_
      refine Walk.aload (pc' := 219) at_217 rfl rfl ?_
      refine Walk.iload (pc' := 221) at_219 rfl ?_
      refine Walk.aload (pc' := 223) at_221 rfl rfl ?_
      refine Walk.aconstNull (pc' := 224) at_223 ?_
      refine Walk.callV (pc' := 227) (a := x187) (Wd := 0) (as := [(.int p4), (.ref x229), .null]) (rest := []) (wd66 hw) (wd67 hw) (wd69 hw) (wd69 hw) (wd68 hw) (((((((E191.kq K205).kq K207).kq K226).kq K228).kq K257).kq K371).kq K418) ((c_ce1 hw x187 s396 l398 x229 p4 _ _ _ _ As410 Al412 (((A233.kq K257 (fun _ => (nwb (gtne (((E191.kq K205).kq K207).kq K226).lt g230)))).kq K371 (fun _ => (not_or.mpr ⟨(nwb (gtne (((E191.kq K205).kq K207).kq K226).lt g230)), (nwb (gtne (E212.kq K226).lt g230))⟩))).kq K418 (fun _ => (nwb (gtne (((E191.kq K205).kq K207).kq K226).lt g230)))) F1406 F3408 F4409 rfl rfl (by decide)).pay (wd70 hw) (wd2 hw) (by decide) (by decide)) (hlen := lenOf pd11 rfl) (hd := at_224) (hst := rfl) (hW := Nat.le_of_eq rfl) (hsz := rfl) (hc1 := Nat.le_of_ble_eq_true rfl) (hl1 := Nat.le_of_ble_eq_true rfl) (hv := Fw.upN) (kk := fun v425 h429 Ts426 Li427 q428 K430 => ?_)
      obtain ⟨rfl, rfl, rfl, rfl⟩ := q428
      show Walk _ _ _ _ _ _ _ _ _ _ _ _ _ _ 12 80 227 _ [(.int (0 : Int32))]
      refine Walk.ifNo (pc' := 230) at_227 (XT.i0_ne_f rfl) ?_
      refine Walk.iconst (pc' := 231) (1 : Int32) at_230 rfl ?_
      refine Walk.goto (pc' := 235) at_231 ?_
      refine Walk.istore (pc' := 237) (Ls' := #[.val (.int p0), .val (.long p1), .second, .val (.int p2), .val (.long p3), .second, .val (.int p4), .val (.long p5), .second, .val (.ref x187), .val (.ref x208), .val (.ref x229), .val (.long (0 : Int64)), .second, .val (.int (1 : Int32))]) at_235 rfl ?_
      refine Walk.iload (pc' := 239) at_237 rfl ?_
      exact Walk.nret at_239 rfl (by simp) ⟨rfl, rfl⟩ (fun _ q => q) (Nat.le_of_ble_eq_true rfl) (Nat.le_of_ble_eq_true rfl)
  · skip
    refine Walk.callV (pc' := 32) (a := x187) (Wd := 0) (as := [(.int p0), (.long p5), (.long p1)]) (rest := []) (wd20 hw) (wd21 hw) (wd23 hw) (wd23 hw) (wd22 hw) ((((E191.kq K205).kq K207).kq K226).kq K228) ((c_set0 hw x187 p0 p5 p1 h1 ((((F196.kq K205 (not_or.mpr ⟨(nws (slot_ne (a0 := a0) (Or.inl (wd26 hw)) (Or.inl (wd12 hw)) (by decide) (t := .int) (by decide) (t' := (.array .int)) (by decide))), (not_or.mpr ⟨(nws (slot_ne (a0 := a0) (Or.inl (wd26 hw)) (Or.inl (wd16 hw)) (by decide) (t := .int) (by decide) (t' := (.array .long)) (by decide))), (nws (slot_ne (a0 := a0) (Or.inl (wd26 hw)) (Or.inl (wd18 hw)) (by decide) (t := .int) (by decide) (t' := (.array .int)) (by decide)))⟩)⟩)).kq K207 (fun q => q)).kq K226 (not_or.mpr ⟨(nw (ltne (E191.kq K205).lt g209)), (not_or.mpr ⟨(nw (ltne (E191.kq K205).lt g209)), (nw (ltne (E191.kq K205).lt g209))⟩)⟩)).kq K228 (fun q => q))).pay (wd24 hw) (wd2 hw) (by decide) (by decide)) (hlen := lenOf pd8 rfl) (hd := at_29) (hst := rfl) (hW := Nat.le_of_eq rfl) (hsz := rfl) (hc1 := Nat.le_of_ble_eq_true rfl) (hl1 := Nat.le_of_ble_eq_true rfl) (hv := Fw.upN) (kk := fun v431 h435 Ts432 Li433 q434 K436 => ?_)
    obtain ⟨rfl, rfl, rfl, rfl⟩ := q434
    show Walk _ _ _ _ _ _ _ _ _ _ _ _ _ _ 6 32 32 _ []
    refine Walk.aload (pc' := 34) at_32 rfl rfl ?_
    refine Walk.iloadN (pc' := 35) at_34 rfl ?_
    refine Walk.lload (pc' := 37) at_35 rfl ?_
    refine Walk.lload (pc' := 39) at_37 rfl ?_
    by_cases h3 : 0 < p3
    · skip
      obtain ⟨r3, hr3⟩ : ∃ r : Int64, ((1048576 : Int64) < p3 ∧ r = (1048576 : Int64)) ∨ (¬ (1048576 : Int64) < p3 ∧ r = p3) := (Decidable.em ((1048576 : Int64) < p3)).elim (fun q => ⟨_, Or.inl ⟨q, rfl⟩⟩) (fun q => ⟨_, Or.inr ⟨q, rfl⟩⟩)
      refine Walk.callV (pc' := 42) (a := x208) (Wd := 0) (as := [(.int p2), (.long p5), (.long p3)]) (rest := []) (wd20 hw) (wd21 hw) (wd23 hw) (wd23 hw) (wd22 hw) ((E212.kq K226).kq K228) ((c_set1 hw x208 p2 p5 p3 r3 h3 hr3 ni nl _ _ (((((A1.kq K186 (fun _ => (fun q => q))).kq K205 (fun _ => (not_or.mpr ⟨(nw (ltne A1.lt g188)), (not_or.mpr ⟨(nw (ltne A1.lt g188)), (nw (ltne A1.lt g188))⟩)⟩))).kq K207 (fun _ => (fun q => q))).kq K226 (fun _ => (not_or.mpr ⟨(nw (ltne ((A1.kq K186 (fun _ => (fun q => q))).kq K205 (fun _ => (not_or.mpr ⟨(nw (ltne A1.lt g188)), (not_or.mpr ⟨(nw (ltne A1.lt g188)), (nw (ltne A1.lt g188))⟩)⟩))).lt g209)), (not_or.mpr ⟨(nw (ltne ((A1.kq K186 (fun _ => (fun q => q))).kq K205 (fun _ => (not_or.mpr ⟨(nw (ltne A1.lt g188)), (not_or.mpr ⟨(nw (ltne A1.lt g188)), (nw (ltne A1.lt g188))⟩)⟩))).lt g209)), (nw (ltne ((A1.kq K186 (fun _ => (fun q => q))).kq K205 (fun _ => (not_or.mpr ⟨(nw (ltne A1.lt g188)), (not_or.mpr ⟨(nw (ltne A1.lt g188)), (nw (ltne A1.lt g188))⟩)⟩))).lt g209))⟩)⟩))).kq K228 (fun _ => (fun q => q))) (((((A2.kq K186 (fun _ => (fun q => q))).kq K205 (fun _ => (not_or.mpr ⟨(nw (ltne A2.lt g188)), (not_or.mpr ⟨(nw (ltne A2.lt g188)), (nw (ltne A2.lt g188))⟩)⟩))).kq K207 (fun _ => (fun q => q))).kq K226 (fun _ => (not_or.mpr ⟨(nw (ltne ((A2.kq K186 (fun _ => (fun q => q))).kq K205 (fun _ => (not_or.mpr ⟨(nw (ltne A2.lt g188)), (not_or.mpr ⟨(nw (ltne A2.lt g188)), (nw (ltne A2.lt g188))⟩)⟩))).lt g209)), (not_or.mpr ⟨(nw (ltne ((A2.kq K186 (fun _ => (fun q => q))).kq K205 (fun _ => (not_or.mpr ⟨(nw (ltne A2.lt g188)), (not_or.mpr ⟨(nw (ltne A2.lt g188)), (nw (ltne A2.lt g188))⟩)⟩))).lt g209)), (nw (ltne ((A2.kq K186 (fun _ => (fun q => q))).kq K205 (fun _ => (not_or.mpr ⟨(nw (ltne A2.lt g188)), (not_or.mpr ⟨(nw (ltne A2.lt g188)), (nw (ltne A2.lt g188))⟩)⟩))).lt g209))⟩)⟩))).kq K228 (fun _ => (fun q => q))) ((E212.kq K226).kq K228) (F218.kq K228 (fun q => q)) (F219.kq K228 (fun q => q)) (F220.kq K228 (fun q => q)) ((F217.kq K226 (not_or.mpr ⟨(nws (slot_ne (a0 := a0) (Or.inl (wd26 hw)) (Or.inl (wd12 hw)) (by decide) (t := .int) (by decide) (t' := (.array .int)) (by decide))), (not_or.mpr ⟨(nws (slot_ne (a0 := a0) (Or.inl (wd26 hw)) (Or.inl (wd16 hw)) (by decide) (t := .int) (by decide) (t' := (.array .long)) (by decide))), (nws (slot_ne (a0 := a0) (Or.inl (wd26 hw)) (Or.inl (wd18 hw)) (by decide) (t := .int) (by decide) (t' := (.array .int)) (by decide)))⟩)⟩)).kq K228 (fun q => q)) g211).pay (wd24 hw) (wd2 hw) (by decide) (by decide)) (hlen := lenOf pd8 rfl) (hd := at_39) (hst := rfl) (hW := Nat.le_of_eq rfl) (hsz := rfl) (hc1 := Nat.le_of_ble_eq_true rfl) (hl1 := Nat.le_of_ble_eq_true rfl) (hv := (Fw.up (fun y q => Or.inl (q ▸ g210)))) (kk := fun v454 h458 Ts455 Li456 q457 K459 => ?_)
      obtain ⟨⟨rfl, rfl, rfl⟩, s437, t438, l439, f440, gs441, gt442, gl443, n1444, n2445, n3446, F1447, F2448, F3449, F4450, As451, At452, Al453⟩ := q457
      show Walk _ _ _ _ _ _ _ _ _ _ _ _ _ _ 9 56 42 _ []
      refine Walk.aload (pc' := 44) at_42 rfl rfl ?_
      refine Walk.callV (pc' := 47) (a := x208) (Wd := 0) (as := []) (rest := []) (wd55 hw) (wd56 hw) (wd58 hw) (wd58 hw) (wd57 hw) (((E212.kq K226).kq K228).kq K459) ((c_foot8 hw x208 s437 _ As451 F1447).pay (wd59 hw) (wd2 hw) (by decide) (by decide)) (hlen := lenOf pd9 rfl) (hd := at_44) (hst := rfl) (hW := Nat.le_of_eq rfl) (hsz := rfl) (hc1 := Nat.le_of_ble_eq_true rfl) (hl1 := Nat.le_of_ble_eq_true rfl) (hv := Fw.upN) (kk := fun v460 h464 Ts461 Li462 q463 K465 => ?_)
      obtain ⟨rfl, rfl, rfl, rfl⟩ := q463
      show Walk _ _ _ _ _ _ _ _ _ _ _ _ _ _ 9 56 47 _ [(.long (128 : Int64))]
      refine Walk.lstore (pc' := 49) (Ls' := #[.val (.int p0), .val (.long p1), .second, .val (.int p2), .val (.long p3), .second, .val (.int p4), .val (.long p5), .second, .val (.ref x187), .val (.ref x208), .val (.ref x229), .val (.long (128 : Int64)), .second, .unset]) at_47 rfl ?_
      refine Walk.aload (pc' := 51) at_49 rfl rfl ?_
      refine Walk.aload (pc' := 53) at_51 rfl rfl ?_
      refine Walk.callV (pc' := 56) (a := x187) (Wd := 0) (as := [(.ref x208)]) (rest := []) (wd61 hw) (wd62 hw) (wd64 hw) (wd64 hw) (wd63 hw) (((((E191.kq K205).kq K207).kq K226).kq K228).kq K459) ((c_take hw x187 x208 s437 t438 l439 _ _ _ _ _ ni nl S1 S2 (ltne (E191.kq K205).lt g209) (((((E191.kq K205).kq K207).kq K226).kq K228).kq K459) (((E212.kq K226).kq K228).kq K459) ((((F197.kq K207 (fun q => q)).kq K226 (not_or.mpr ⟨(nw (ltne (E191.kq K205).lt g209)), (not_or.mpr ⟨(nw (ltne (E191.kq K205).lt g209)), (nw (ltne (E191.kq K205).lt g209))⟩)⟩)).kq K228 (fun q => q)).kq K459 (nwb (ltne (E191.kq K205).lt g209))) ((((F198.kq K207 (fun q => q)).kq K226 (not_or.mpr ⟨(nw (ltne (E191.kq K205).lt g209)), (not_or.mpr ⟨(nw (ltne (E191.kq K205).lt g209)), (nw (ltne (E191.kq K205).lt g209))⟩)⟩)).kq K228 (fun q => q)).kq K459 (nwb (ltne (E191.kq K205).lt g209))) ((((F199.kq K207 (fun q => q)).kq K226 (not_or.mpr ⟨(nw (ltne (E191.kq K205).lt g209)), (not_or.mpr ⟨(nw (ltne (E191.kq K205).lt g209)), (nw (ltne (E191.kq K205).lt g209))⟩)⟩)).kq K228 (fun q => q)).kq K459 (nwb (ltne (E191.kq K205).lt g209))) (((((F196.kq K205 (not_or.mpr ⟨(nws (slot_ne (a0 := a0) (Or.inl (wd26 hw)) (Or.inl (wd12 hw)) (by decide) (t := .int) (by decide) (t' := (.array .int)) (by decide))), (not_or.mpr ⟨(nws (slot_ne (a0 := a0) (Or.inl (wd26 hw)) (Or.inl (wd16 hw)) (by decide) (t := .int) (by decide) (t' := (.array .long)) (by decide))), (nws (slot_ne (a0 := a0) (Or.inl (wd26 hw)) (Or.inl (wd18 hw)) (by decide) (t := .int) (by decide) (t' := (.array .int)) (by decide)))⟩)⟩)).kq K207 (fun q => q)).kq K226 (not_or.mpr ⟨(nw (ltne (E191.kq K205).lt g209)), (not_or.mpr ⟨(nw (ltne (E191.kq K205).lt g209)), (nw (ltne (E191.kq K205).lt g209))⟩)⟩)).kq K228 (fun q => q)).kq K459 (nwb (ltne (E191.kq K205).lt g209))) F1447 F2448 F3449 F4450 g190 g211).pay (wd65 hw) (wd2 hw) (by decide) (by decide)) (hlen := lenOf pd10 rfl) (hd := at_53) (hst := rfl) (hW := Nat.le_of_eq rfl) (hsz := rfl) (hc1 := Nat.le_of_ble_eq_true rfl) (hl1 := Nat.le_of_ble_eq_true rfl) (hv := (Fw.up (fun y q => Or.inl (q.elim (fun q => q ▸ g189) (fun q => q ▸ g210))))) (kk := fun v474 h478 Ts475 Li476 q477 K479 => ?_)
      obtain ⟨⟨rfl, rfl, rfl⟩, F466, F467, F468, F469, F470, F471, F472, F473⟩ := q477
      show Walk _ _ _ _ _ _ _ _ _ _ _ _ _ _ 9 56 56 _ []
      refine Walk.lload (pc' := 58) at_56 rfl ?_
      refine Walk.lload (pc' := 60) at_58 rfl ?_
      refine Walk.lconst (pc' := 61) (0 : Int64) at_60 rfl ?_
      refine Walk.lcmp (pc' := 62) at_61 ?_
      refine Walk.ifNo (pc' := 65) at_62 (XT.ll_le_f h3) ?_
      refine Walk.ldcJ (pc' := 68) (wd80 hw) at_65 ?_
      refine Walk.goto (pc' := 72) at_68 ?_
      refine Walk.lcmp (pc' := 73) at_72 ?_
      refine Walk.ifNo (pc' := 76) at_73 (XT.ll_ne_f rfl) ?_
      refine Walk.iconst (pc' := 77) (1 : Int32) at_76 rfl ?_
      refine Walk.goto (pc' := 81) at_77 ?_
      refine Walk.istore (pc' := 83) (Ls' := #[.val (.int p0), .val (.long p1), .second, .val (.int p2), .val (.long p3), .second, .val (.int p4), .val (.long p5), .second, .val (.ref x187), .val (.ref x208), .val (.ref x229), .val (.long (128 : Int64)), .second, .val (.int (1 : Int32))]) at_81 rfl ?_
      refine Walk.iload (pc' := 85) at_83 rfl ?_
      refine Walk.ifNo (pc' := 88) at_85 (XT.i0_eq_f (by decide)) ?_
      refine Walk.aload (pc' := 90) at_88 rfl rfl ?_
      refine Walk.callV (pc' := 93) (a := x187) (Wd := 0) (as := []) (rest := []) (wd55 hw) (wd56 hw) (wd58 hw) (wd58 hw) (wd57 hw) ((((((E191.kq K205).kq K207).kq K226).kq K228).kq K459).kq K479) ((c_foot8 hw x187 s437 _ (As451.kq K479 (fun _ => (not_or.mpr ⟨(nwb (gtne ((((E191.kq K205).kq K207).kq K226).kq K228).lt gs441)), (nwb (gtne ((E212.kq K226).kq K228).lt gs441))⟩))) F466).pay (wd59 hw) (wd2 hw) (by decide) (by decide)) (hlen := lenOf pd9 rfl) (hd := at_90) (hst := rfl) (hW := Nat.le_of_eq rfl) (hsz := rfl) (hc1 := Nat.le_of_ble_eq_true rfl) (hl1 := Nat.le_of_ble_eq_true rfl) (hv := Fw.upN) (kk := fun v480 h484 Ts481 Li482 q483 K485 => ?_)
      obtain ⟨rfl, rfl, rfl, rfl⟩ := q483
      show Walk _ _ _ _ _ _ _ _ _ _ _ _ _ _ 9 56 93 _ [(.long (128 : Int64))]
      refine Walk.lload (pc' := 95) at_93 rfl ?_
      refine Walk.lcmp (pc' := 96) at_95 ?_
      refine Walk.ifNo (pc' := 99) at_96 (XT.ll_ne_f rfl) ?_
      refine Walk.iconst (pc' := 100) (1 : Int32) at_99 rfl ?_
      refine Walk.goto (pc' := 104) at_100 ?_
      refine Walk.istore (pc' := 106) (Ls' := #[.val (.int p0), .val (.long p1), .second, .val (.int p2), .val (.long p3), .second, .val (.int p4), .val (.long p5), .second, .val (.ref x187), .val (.ref x208), .val (.ref x229), .val (.long (128 : Int64)), .second, .val (.int (1 : Int32))]) at_104 rfl ?_
      refine Walk.iload (pc' := 108) at_106 rfl ?_
      refine Walk.ifNo (pc' := 111) at_108 (XT.i0_eq_f (by decide)) ?_
      refine Walk.aload (pc' := 113) at_111 rfl rfl ?_
      refine Walk.callV (pc' := 116) (a := x208) (Wd := 0) (as := []) (rest := []) (wd55 hw) (wd56 hw) (wd58 hw) (wd58 hw) (wd57 hw) ((((E212.kq K226).kq K228).kq K459).kq K479) ((c_foot0 hw x208 ni _ (((((((A1.kq K186 (fun _ => (fun q => q))).kq K205 (fun _ => (not_or.mpr ⟨(nw (ltne A1.lt g188)), (not_or.mpr ⟨(nw (ltne A1.lt g188)), (nw (ltne A1.lt g188))⟩)⟩))).kq K207 (fun _ => (fun q => q))).kq K226 (fun _ => (not_or.mpr ⟨(nw (ltne ((A1.kq K186 (fun _ => (fun q => q))).kq K205 (fun _ => (not_or.mpr ⟨(nw (ltne A1.lt g188)), (not_or.mpr ⟨(nw (ltne A1.lt g188)), (nw (ltne A1.lt g188))⟩)⟩))).lt g209)), (not_or.mpr ⟨(nw (ltne ((A1.kq K186 (fun _ => (fun q => q))).kq K205 (fun _ => (not_or.mpr ⟨(nw (ltne A1.lt g188)), (not_or.mpr ⟨(nw (ltne A1.lt g188)), (nw (ltne A1.lt g188))⟩)⟩))).lt g209)), (nw (ltne ((A1.kq K186 (fun _ => (fun q => q))).kq K205 (fun _ => (not_or.mpr ⟨(nw (ltne A1.lt g188)), (not_or.mpr ⟨(nw (ltne A1.lt g188)), (nw (ltne A1.lt g188))⟩)⟩))).lt g209))⟩)⟩))).kq K228 (fun _ => (fun q => q))).kq K459 (fun _ => (nwb (ltne ((A1.kq K186 (fun _ => (fun q => q))).kq K205 (fun _ => (not_or.mpr ⟨(nw (ltne A1.lt g188)), (not_or.mpr ⟨(nw (ltne A1.lt g188)), (nw (ltne A1.lt g188))⟩)⟩))).lt g209)))).kq K479 (fun _ => (not_or.mpr ⟨(nwb (ltne A1.lt g188)), (nwb (ltne ((A1.kq K186 (fun _ => (fun q => q))).kq K205 (fun _ => (not_or.mpr ⟨(nw (ltne A1.lt g188)), (not_or.mpr ⟨(nw (ltne A1.lt g188)), (nw (ltne A1.lt g188))⟩)⟩))).lt g209))⟩))) F470).pay (wd59 hw) (wd2 hw) (by decide) (by decide)) (hlen := lenOf pd9 rfl) (hd := at_113) (hst := rfl) (hW := Nat.le_of_eq rfl) (hsz := rfl) (hc1 := Nat.le_of_ble_eq_true rfl) (hl1 := Nat.le_of_ble_eq_true rfl) (hv := Fw.upN) (kk := fun v486 h490 Ts487 Li488 q489 K491 => ?_)
      obtain ⟨rfl, rfl, rfl, rfl⟩ := q489
      show Walk _ _ _ _ _ _ _ _ _ _ _ _ _ _ 9 56 116 _ [(.long (0 : Int64))]
      refine Walk.lconst (pc' := 117) (0 : Int64) at_116 rfl ?_
      refine Walk.lcmp (pc' := 118) at_117 ?_
      refine Walk.ifNo (pc' := 121) at_118 (XT.ll_ne_f rfl) ?_
      refine Walk.iconst (pc' := 122) (1 : Int32) at_121 rfl ?_
      refine Walk.goto (pc' := 126) at_122 ?_
      refine Walk.istore (pc' := 128) (Ls' := #[.val (.int p0), .val (.long p1), .second, .val (.int p2), .val (.long p3), .second, .val (.int p4), .val (.long p5), .second, .val (.ref x187), .val (.ref x208), .val (.ref x229), .val (.long (128 : Int64)), .second, .val (.int (1 : Int32))]) at_126 rfl ?_
      refine Walk.iload (pc' := 130) at_128 rfl ?_
      refine Walk.ifNo (pc' := 133) at_130 (XT.i0_eq_f (by decide)) ?_
      refine Walk.aload (pc' := 135) at_133 rfl rfl ?_
      refine Walk.iloadN (pc' := 136) at_135 rfl ?_
      refine Walk.aload (pc' := 138) at_136 rfl rfl ?_
      refine Walk.aconstNull (pc' := 139) at_138 ?_
      refine Walk.callV (pc' := 142) (a := x187) (Wd := 0) (as := [(.int p2), (.ref x229), .null]) (rest := []) (wd66 hw) (wd67 hw) (wd69 hw) (wd69 hw) (wd68 hw) ((((((E191.kq K205).kq K207).kq K226).kq K228).kq K459).kq K479) ((c_ce0 hw x187 s437 x229 p2 _ _ 8 (As451.kq K479 (fun _ => (not_or.mpr ⟨(nwb (gtne ((((E191.kq K205).kq K207).kq K226).kq K228).lt gs441)), (nwb (gtne ((E212.kq K226).kq K228).lt gs441))⟩))) ((A233.kq K459 (fun _ => (nwb (gtne (E212.kq K226).lt g230)))).kq K479 (fun _ => (not_or.mpr ⟨(nwb (gtne (((E191.kq K205).kq K207).kq K226).lt g230)), (nwb (gtne (E212.kq K226).lt g230))⟩))) F466 F469).pay (wd70 hw) (wd2 hw) (by decide) (by decide)) (hlen := lenOf pd11 rfl) (hd := at_139) (hst := rfl) (hW := Nat.le_of_eq rfl) (hsz := rfl) (hc1 := Nat.le_of_ble_eq_true rfl) (hl1 := Nat.le_of_ble_eq_true rfl) (hv := Fw.upN) (kk := fun v492 h496 Ts493 Li494 q495 K497 => ?_)
      obtain ⟨rfl, rfl, rfl, rfl⟩ := q495
      show Walk _ _ _ _ _ _ _ _ _ _ _ _ _ _ 9 56 142 _ [(.int (1 : Int32))]
      refine Walk.ifNo (pc' := 145) at_142 (XT.i0_eq_f (by decide)) ?_
      refine Walk.iconst (pc' := 146) (1 : Int32) at_145 rfl ?_
      refine Walk.goto (pc' := 150) at_146 ?_
      refine Walk.istore (pc' := 152) (Ls' := #[.val (.int p0), .val (.long p1), .second, .val (.int p2), .val (.long p3), .second, .val (.int p4), .val (.long p5), .second, .val (.ref x187), .val (.ref x208), .val (.ref x229), .val (.long (128 : Int64)), .second, .val (.int (1 : Int32))]) at_150 rfl ?_
      refine Walk.iload (pc' := 154) at_152 rfl ?_
      refine Walk.ifNo (pc' := 157) at_154 (XT.i0_eq_f (by decide)) ?_
      refine Walk.aload (pc' := 159) at_157 rfl rfl ?_
      refine Walk.iloadN (pc' := 160) at_159 rfl ?_
      refine Walk.aload (pc' := 162) at_160 rfl rfl ?_
      refine Walk.aconstNull (pc' := 163) at_162 ?_
      refine Walk.callV (pc' := 166) (a := x208) (Wd := 0) (as := [(.int p2), (.ref x229), .null]) (rest := []) (wd66 hw) (wd67 hw) (wd69 hw) (wd69 hw) (wd68 hw) ((((E212.kq K226).kq K228).kq K459).kq K479) ((c_ce0 hw x208 ni x229 p2 _ _ 0 (((((((A1.kq K186 (fun _ => (fun q => q))).kq K205 (fun _ => (not_or.mpr ⟨(nw (ltne A1.lt g188)), (not_or.mpr ⟨(nw (ltne A1.lt g188)), (nw (ltne A1.lt g188))⟩)⟩))).kq K207 (fun _ => (fun q => q))).kq K226 (fun _ => (not_or.mpr ⟨(nw (ltne ((A1.kq K186 (fun _ => (fun q => q))).kq K205 (fun _ => (not_or.mpr ⟨(nw (ltne A1.lt g188)), (not_or.mpr ⟨(nw (ltne A1.lt g188)), (nw (ltne A1.lt g188))⟩)⟩))).lt g209)), (not_or.mpr ⟨(nw (ltne ((A1.kq K186 (fun _ => (fun q => q))).kq K205 (fun _ => (not_or.mpr ⟨(nw (ltne A1.lt g188)), (not_or.mpr ⟨(nw (ltne A1.lt g188)), (nw (ltne A1.lt g188))⟩)⟩))).lt g209)), (nw (ltne ((A1.kq K186 (fun _ => (fun q => q))).kq K205 (fun _ => (not_or.mpr ⟨(nw (ltne A1.lt g188)), (not_or.mpr ⟨(nw (ltne A1.lt g188)), (nw (ltne A1.lt g188))⟩)⟩))).lt g209))⟩)⟩))).kq K228 (fun _ => (fun q => q))).kq K459 (fun _ => (nwb (ltne ((A1.kq K186 (fun _ => (fun q => q))).kq K205 (fun _ => (not_or.mpr ⟨(nw (ltne A1.lt g188)), (not_or.mpr ⟨(nw (ltne A1.lt g188)), (nw (ltne A1.lt g188))⟩)⟩))).lt g209)))).kq K479 (fun _ => (not_or.mpr ⟨(nwb (ltne A1.lt g188)), (nwb (ltne ((A1.kq K186 (fun _ => (fun q => q))).kq K205 (fun _ => (not_or.mpr ⟨(nw (ltne A1.lt g188)), (not_or.mpr ⟨(nw (ltne A1.lt g188)), (nw (ltne A1.lt g188))⟩)⟩))).lt g209))⟩))) ((A233.kq K459 (fun _ => (nwb (gtne (E212.kq K226).lt g230)))).kq K479 (fun _ => (not_or.mpr ⟨(nwb (gtne (((E191.kq K205).kq K207).kq K226).lt g230)), (nwb (gtne (E212.kq K226).lt g230))⟩))) F470 F473).pay (wd70 hw) (wd2 hw) (by decide) (by decide)) (hlen := lenOf pd11 rfl) (hd := at_163) (hst := rfl) (hW := Nat.le_of_eq rfl) (hsz := rfl) (hc1 := Nat.le_of_ble_eq_true rfl) (hl1 := Nat.le_of_ble_eq_true rfl) (hv := Fw.upN) (kk := fun v498 h502 Ts499 Li500 q501 K503 => ?_)
      obtain ⟨rfl, rfl, rfl, rfl⟩ := q501
      show Walk _ _ _ _ _ _ _ _ _ _ _ _ _ _ 9 56 166 _ [(.int (1 : Int32))]
      refine Walk.ifNo (pc' := 169) at_166 (XT.i0_eq_f (by decide)) ?_
      refine Walk.iconst (pc' := 170) (1 : Int32) at_169 rfl ?_
      refine Walk.goto (pc' := 174) at_170 ?_
      refine Walk.istore (pc' := 176) (Ls' := #[.val (.int p0), .val (.long p1), .second, .val (.int p2), .val (.long p3), .second, .val (.int p4), .val (.long p5), .second, .val (.ref x187), .val (.ref x208), .val (.ref x229), .val (.long (128 : Int64)), .second, .val (.int (1 : Int32))]) at_174 rfl ?_
      refine Walk.iload (pc' := 178) at_176 rfl ?_
      refine Walk.ifYes (pc' := 183) at_178 (XT.i0_ne_t (by decide)) ?_
      refine Walk.aload (pc' := 185) at_183 rfl rfl ?_
      refine Walk.iload (pc' := 187) at_185 rfl ?_
      refine Walk.lload (pc' := 189) at_187 rfl ?_
      refine Walk.lconst (pc' := 190) (1 : Int64) at_189 rfl ?_
      refine Walk.callV (pc' := 193) (a := x187) (Wd := 0) (as := [(.int p4), (.long p5), (.long (1 : Int64))]) (rest := []) (wd20 hw) (wd21 hw) (wd23 hw) (wd23 hw) (wd22 hw) ((((((E191.kq K205).kq K207).kq K226).kq K228).kq K459).kq K479) ((c_set2 hw x187 p4 p5 1 1 (by decide) (Or.inr ⟨by decide, rfl⟩) s437 t438 l439 _ _ _ (As451.kq K479 (fun _ => (not_or.mpr ⟨(nwb (gtne ((((E191.kq K205).kq K207).kq K226).kq K228).lt gs441)), (nwb (gtne ((E212.kq K226).kq K228).lt gs441))⟩))) (At452.kq K479 (fun _ => (not_or.mpr ⟨(nwb (gtne ((((E191.kq K205).kq K207).kq K226).kq K228).lt gt442)), (nwb (gtne ((E212.kq K226).kq K228).lt gt442))⟩))) (Al453.kq K479 (fun _ => (not_or.mpr ⟨(nwb (gtne ((((E191.kq K205).kq K207).kq K226).kq K228).lt gl443)), (nwb (gtne ((E212.kq K226).kq K228).lt gl443))⟩))) n1444 n2445 n3446 (Nat.le_trans (Nat.le_trans E0.1 (Nat.le_trans (Nat.le_trans (Nat.le_trans (Nat.le_trans (Nat.le_trans (Nat.le_refl _) K186.1) K205.1) K207.1) K226.1) K228.1)) gs441) (Nat.le_trans (Nat.le_trans E0.1 (Nat.le_trans (Nat.le_trans (Nat.le_trans (Nat.le_trans (Nat.le_trans (Nat.le_refl _) K186.1) K205.1) K207.1) K226.1) K228.1)) gt442) (Nat.le_trans (Nat.le_trans E0.1 (Nat.le_trans (Nat.le_trans (Nat.le_trans (Nat.le_trans (Nat.le_trans (Nat.le_refl _) K186.1) K205.1) K207.1) K226.1) K228.1)) gl443) ((((((E191.kq K205).kq K207).kq K226).kq K228).kq K459).kq K479) F466 F467 F468 F469 g190).pay (wd24 hw) (wd2 hw) (by decide) (by decide)) (hlen := lenOf pd8 rfl) (hd := at_190) (hst := rfl) (hW := Nat.le_of_eq rfl) (hsz := rfl) (hc1 := Nat.le_of_ble_eq_true rfl) (hl1 := Nat.le_of_ble_eq_true rfl) (hv := (Fw.up (fun y q => Or.inl (by rcases q with rfl | rfl | rfl | rfl; exact g189; exact (Nat.le_trans (Nat.le_trans (Nat.le_trans (Nat.le_trans (Nat.le_trans (Nat.le_trans (Nat.le_refl _) K186.1) K205.1) K207.1) K226.1) K228.1) gs441); exact (Nat.le_trans (Nat.le_trans (Nat.le_trans (Nat.le_trans (Nat.le_trans (Nat.le_trans (Nat.le_refl _) K186.1) K205.1) K207.1) K226.1) K228.1) gt442); exact (Nat.le_trans (Nat.le_trans (Nat.le_trans (Nat.le_trans (Nat.le_trans (Nat.le_trans (Nat.le_refl _) K186.1) K205.1) K207.1) K226.1) K228.1) gl443))))) (kk := fun v507 h511 Ts508 Li509 q510 K512 => ?_)
      obtain ⟨⟨rfl, rfl, rfl⟩, F504, F505, F506⟩ := q510
      show Walk _ _ _ _ _ _ _ _ _ _ _ _ _ _ 12 80 193 _ []
      refine Walk.aload (pc' := 195) at_193 rfl rfl ?_
      refine Walk.callV (pc' := 198) (a := x187) (Wd := 0) (as := []) (rest := []) (wd55 hw) (wd56 hw) (wd58 hw) (wd58 hw) (wd57 hw) (((((((E191.kq K205).kq K207).kq K226).kq K228).kq K459).kq K479).kq K512) ((c_foot8 hw x187 s437 _ F505 (F466.kq K512 (not_or.mpr ⟨(nws (slot_ne (a0 := a0) (Or.inl (wd12 hw)) (Or.inl (wd26 hw)) (by decide) (t := (.array .int)) (by decide) (t' := .int) (by decide))), (not_or.mpr ⟨(nw (ltne ((((E191.kq K205).kq K207).kq K226).kq K228).lt gs441)), (not_or.mpr ⟨(nw (ltne ((((E191.kq K205).kq K207).kq K226).kq K228).lt gt442)), (nw (ltne ((((E191.kq K205).kq K207).kq K226).kq K228).lt gl443))⟩)⟩)⟩))).pay (wd59 hw) (wd2 hw) (by decide) (by decide)) (hlen := lenOf pd9 rfl) (hd := at_195) (hst := rfl) (hW := Nat.le_of_eq rfl) (hsz := rfl) (hc1 := Nat.le_of_ble_eq_true rfl) (hl1 := Nat.le_of_ble_eq_true rfl) (hv := Fw.upN) (kk := fun v513 h517 Ts514 Li515 q516 K518 => ?_)
      obtain ⟨rfl, rfl, rfl, rfl⟩ := q516
      show Walk _ _ _ _ _ _ _ _ _ _ _ _ _ _ 12 80 198 _ [(.long (128 : Int64))]
      refine Walk.ldcJ (pc' := 201) (wd80 hw) at_198 ?_
      refine Walk.lcmp (pc' := 202) at_201 ?_
      refine Walk.ifNo (pc' := 205) at_202 (XT.ll_ne_f rfl) ?_
      refine Walk.iconst (pc' := 206) (1 : Int32) at_205 rfl ?_
      refine Walk.goto (pc' := 210) at_206 ?_
      refine Walk.istore (pc' := 212) (Ls' := #[.val (.int p0), .val (.long p1), .second, .val (.int p2), .val (.long p3), .second, .val (.int p4), .val (.long p5), .second, .val (.ref x187), .val (.ref x208), .val (.ref x229), .val (.long (128 : Int64)), .second, .val (.int (1 : Int32))]) at_210 rfl ?_
      refine Walk.iload (pc' := 214) at_212 rfl ?_
      refine Walk.ifNo (pc' := 217) at_214 (XT.i0_eq_f (by decide)) ?_
      refine Walk.aload (pc' := 219) at_217 rfl rfl ?_
      refine Walk.iload (pc' := 221) at_219 rfl ?_
      refine Walk.aload (pc' := 223) at_221 rfl rfl ?_
      refine Walk.aconstNull (pc' := 224) at_223 ?_
      refine Walk.callV (pc' := 227) (a := x187) (Wd := 0) (as := [(.int p4), (.ref x229), .null]) (rest := []) (wd66 hw) (wd67 hw) (wd69 hw) (wd69 hw) (wd68 hw) (((((((E191.kq K205).kq K207).kq K226).kq K228).kq K459).kq K479).kq K512) ((c_ce1 hw x187 s437 l439 x229 p4 _ _ _ _ F505 F506 (((A233.kq K459 (fun _ => (nwb (gtne (E212.kq K226).lt g230)))).kq K479 (fun _ => (not_or.mpr ⟨(nwb (gtne (((E191.kq K205).kq K207).kq K226).lt g230)), (nwb (gtne (E212.kq K226).lt g230))⟩))).kq K512 (fun _ => (not_or.mpr ⟨(nw (gtne (((E191.kq K205).kq K207).kq K226).lt g230)), (not_or.mpr ⟨(nw (ltne A233.lt gs441)), (not_or.mpr ⟨(nw (ltne A233.lt gt442)), (nw (ltne A233.lt gl443))⟩)⟩)⟩))) (F466.kq K512 (not_or.mpr ⟨(nws (slot_ne (a0 := a0) (Or.inl (wd12 hw)) (Or.inl (wd26 hw)) (by decide) (t := (.array .int)) (by decide) (t' := .int) (by decide))), (not_or.mpr ⟨(nw (ltne ((((E191.kq K205).kq K207).kq K226).kq K228).lt gs441)), (not_or.mpr ⟨(nw (ltne ((((E191.kq K205).kq K207).kq K226).kq K228).lt gt442)), (nw (ltne ((((E191.kq K205).kq K207).kq K226).kq K228).lt gl443))⟩)⟩)⟩)) (F468.kq K512 (not_or.mpr ⟨(nws (slot_ne (a0 := a0) (Or.inl (wd18 hw)) (Or.inl (wd26 hw)) (by decide) (t := (.array .int)) (by decide) (t' := .int) (by decide))), (not_or.mpr ⟨(nw (ltne ((((E191.kq K205).kq K207).kq K226).kq K228).lt gs441)), (not_or.mpr ⟨(nw (ltne ((((E191.kq K205).kq K207).kq K226).kq K228).lt gt442)), (nw (ltne ((((E191.kq K205).kq K207).kq K226).kq K228).lt gl443))⟩)⟩)⟩)) F504 rfl rfl (by decide)).pay (wd70 hw) (wd2 hw) (by decide) (by decide)) (hlen := lenOf pd11 rfl) (hd := at_224) (hst := rfl) (hW := Nat.le_of_eq rfl) (hsz := rfl) (hc1 := Nat.le_of_ble_eq_true rfl) (hl1 := Nat.le_of_ble_eq_true rfl) (hv := Fw.upN) (kk := fun v519 h523 Ts520 Li521 q522 K524 => ?_)
      obtain ⟨rfl, rfl, rfl, rfl⟩ := q522
      show Walk _ _ _ _ _ _ _ _ _ _ _ _ _ _ 12 80 227 _ [(.int (0 : Int32))]
      refine Walk.ifNo (pc' := 230) at_227 (XT.i0_ne_f rfl) ?_
      refine Walk.iconst (pc' := 231) (1 : Int32) at_230 rfl ?_
      refine Walk.goto (pc' := 235) at_231 ?_
      refine Walk.istore (pc' := 237) (Ls' := #[.val (.int p0), .val (.long p1), .second, .val (.int p2), .val (.long p3), .second, .val (.int p4), .val (.long p5), .second, .val (.ref x187), .val (.ref x208), .val (.ref x229), .val (.long (128 : Int64)), .second, .val (.int (1 : Int32))]) at_235 rfl ?_
      refine Walk.iload (pc' := 239) at_237 rfl ?_
      exact Walk.nret at_239 rfl (by simp) ⟨rfl, rfl⟩ (fun _ q => q) (Nat.le_of_ble_eq_true rfl) (Nat.le_of_ble_eq_true rfl)
    · skip
      refine Walk.callV (pc' := 42) (a := x208) (Wd := 0) (as := [(.int p2), (.long p5), (.long p3)]) (rest := []) (wd20 hw) (wd21 hw) (wd23 hw) (wd23 hw) (wd22 hw) ((E212.kq K226).kq K228) ((c_set0 hw x208 p2 p5 p3 h3 ((F217.kq K226 (not_or.mpr ⟨(nws (slot_ne (a0 := a0) (Or.inl (wd26 hw)) (Or.inl (wd12 hw)) (by decide) (t := .int) (by decide) (t' := (.array .int)) (by decide))), (not_or.mpr ⟨(nws (slot_ne (a0 := a0) (Or.inl (wd26 hw)) (Or.inl (wd16 hw)) (by decide) (t := .int) (by decide) (t' := (.array .long)) (by decide))), (nws (slot_ne (a0 := a0) (Or.inl (wd26 hw)) (Or.inl (wd18 hw)) (by decide) (t := .int) (by decide) (t' := (.array .int)) (by decide)))⟩)⟩)).kq K228 (fun q => q))).pay (wd24 hw) (wd2 hw) (by decide) (by decide)) (hlen := lenOf pd8 rfl) (hd := at_39) (hst := rfl) (hW := Nat.le_of_eq rfl) (hsz := rfl) (hc1 := Nat.le_of_ble_eq_true rfl) (hl1 := Nat.le_of_ble_eq_true rfl) (hv := Fw.upN) (kk := fun v525 h529 Ts526 Li527 q528 K530 => ?_)
      obtain ⟨rfl, rfl, rfl, rfl⟩ := q528
      show Walk _ _ _ _ _ _ _ _ _ _ _ _ _ _ 9 56 42 _ []
      refine Walk.aload (pc' := 44) at_42 rfl rfl ?_
      refine Walk.callV (pc' := 47) (a := x208) (Wd := 0) (as := []) (rest := []) (wd55 hw) (wd56 hw) (wd58 hw) (wd58 hw) (wd57 hw) ((E212.kq K226).kq K228) ((c_foot0 hw x208 ni _ (((((A1.kq K186 (fun _ => (fun q => q))).kq K205 (fun _ => (not_or.mpr ⟨(nw (ltne A1.lt g188)), (not_or.mpr ⟨(nw (ltne A1.lt g188)), (nw (ltne A1.lt g188))⟩)⟩))).kq K207 (fun _ => (fun q => q))).kq K226 (fun _ => (not_or.mpr ⟨(nw (ltne ((A1.kq K186 (fun _ => (fun q => q))).kq K205 (fun _ => (not_or.mpr ⟨(nw (ltne A1.lt g188)), (not_or.mpr ⟨(nw (ltne A1.lt g188)), (nw (ltne A1.lt g188))⟩)⟩))).lt g209)), (not_or.mpr ⟨(nw (ltne ((A1.kq K186 (fun _ => (fun q => q))).kq K205 (fun _ => (not_or.mpr ⟨(nw (ltne A1.lt g188)), (not_or.mpr ⟨(nw (ltne A1.lt g188)), (nw (ltne A1.lt g188))⟩)⟩))).lt g209)), (nw (ltne ((A1.kq K186 (fun _ => (fun q => q))).kq K205 (fun _ => (not_or.mpr ⟨(nw (ltne A1.lt g188)), (not_or.mpr ⟨(nw (ltne A1.lt g188)), (nw (ltne A1.lt g188))⟩)⟩))).lt g209))⟩)⟩))).kq K228 (fun _ => (fun q => q))) (F218.kq K228 (fun q => q))).pay (wd59 hw) (wd2 hw) (by decide) (by decide)) (hlen := lenOf pd9 rfl) (hd := at_44) (hst := rfl) (hW := Nat.le_of_eq rfl) (hsz := rfl) (hc1 := Nat.le_of_ble_eq_true rfl) (hl1 := Nat.le_of_ble_eq_true rfl) (hv := Fw.upN) (kk := fun v531 h535 Ts532 Li533 q534 K536 => ?_)
      obtain ⟨rfl, rfl, rfl, rfl⟩ := q534
      show Walk _ _ _ _ _ _ _ _ _ _ _ _ _ _ 9 56 47 _ [(.long (0 : Int64))]
      refine Walk.lstore (pc' := 49) (Ls' := #[.val (.int p0), .val (.long p1), .second, .val (.int p2), .val (.long p3), .second, .val (.int p4), .val (.long p5), .second, .val (.ref x187), .val (.ref x208), .val (.ref x229), .val (.long (0 : Int64)), .second, .unset]) at_47 rfl ?_
      refine Walk.aload (pc' := 51) at_49 rfl rfl ?_
      refine Walk.aload (pc' := 53) at_51 rfl rfl ?_
      refine Walk.callV (pc' := 56) (a := x187) (Wd := 0) (as := [(.ref x208)]) (rest := []) (wd61 hw) (wd62 hw) (wd64 hw) (wd64 hw) (wd63 hw) ((((E191.kq K205).kq K207).kq K226).kq K228) ((c_take hw x187 x208 ni nl ni _ _ _ _ _ ni nl S1 S2 (ltne (E191.kq K205).lt g209) ((((E191.kq K205).kq K207).kq K226).kq K228) ((E212.kq K226).kq K228) (((F197.kq K207 (fun q => q)).kq K226 (not_or.mpr ⟨(nw (ltne (E191.kq K205).lt g209)), (not_or.mpr ⟨(nw (ltne (E191.kq K205).lt g209)), (nw (ltne (E191.kq K205).lt g209))⟩)⟩)).kq K228 (fun q => q)) (((F198.kq K207 (fun q => q)).kq K226 (not_or.mpr ⟨(nw (ltne (E191.kq K205).lt g209)), (not_or.mpr ⟨(nw (ltne (E191.kq K205).lt g209)), (nw (ltne (E191.kq K205).lt g209))⟩)⟩)).kq K228 (fun q => q)) (((F199.kq K207 (fun q => q)).kq K226 (not_or.mpr ⟨(nw (ltne (E191.kq K205).lt g209)), (not_or.mpr ⟨(nw (ltne (E191.kq K205).lt g209)), (nw (ltne (E191.kq K205).lt g209))⟩)⟩)).kq K228 (fun q => q)) ((((F196.kq K205 (not_or.mpr ⟨(nws (slot_ne (a0 := a0) (Or.inl (wd26 hw)) (Or.inl (wd12 hw)) (by decide) (t := .int) (by decide) (t' := (.array .int)) (by decide))), (not_or.mpr ⟨(nws (slot_ne (a0 := a0) (Or.inl (wd26 hw)) (Or.inl (wd16 hw)) (by decide) (t := .int) (by decide) (t' := (.array .long)) (by decide))), (nws (slot_ne (a0 := a0) (Or.inl (wd26 hw)) (Or.inl (wd18 hw)) (by decide) (t := .int) (by decide) (t' := (.array .int)) (by decide)))⟩)⟩)).kq K207 (fun q => q)).kq K226 (not_or.mpr ⟨(nw (ltne (E191.kq K205).lt g209)), (not_or.mpr ⟨(nw (ltne (E191.kq K205).lt g209)), (nw (ltne (E191.kq K205).lt g209))⟩)⟩)).kq K228 (fun q => q)) (F218.kq K228 (fun q => q)) (F219.kq K228 (fun q => q)) (F220.kq K228 (fun q => q)) ((F217.kq K226 (not_or.mpr ⟨(nws (slot_ne (a0 := a0) (Or.inl (wd26 hw)) (Or.inl (wd12 hw)) (by decide) (t := .int) (by decide) (t' := (.array .int)) (by decide))), (not_or.mpr ⟨(nws (slot_ne (a0 := a0) (Or.inl (wd26 hw)) (Or.inl (wd16 hw)) (by decide) (t := .int) (by decide) (t' := (.array .long)) (by decide))), (nws (slot_ne (a0 := a0) (Or.inl (wd26 hw)) (Or.inl (wd18 hw)) (by decide) (t := .int) (by decide) (t' := (.array .int)) (by decide)))⟩)⟩)).kq K228 (fun q => q)) g190 g211).pay (wd65 hw) (wd2 hw) (by decide) (by decide)) (hlen := lenOf pd10 rfl) (hd := at_53) (hst := rfl) (hW := Nat.le_of_eq rfl) (hsz := rfl) (hc1 := Nat.le_of_ble_eq_true rfl) (hl1 := Nat.le_of_ble_eq_true rfl) (hv := (Fw.up (fun y q => Or.inl (q.elim (fun q => q ▸ g189) (fun q => q ▸ g210))))) (kk := fun v545 h549 Ts546 Li547 q548 K550 => ?_)
      obtain ⟨⟨rfl, rfl, rfl⟩, F537, F538, F539, F540, F541, F542, F543, F544⟩ := q548
      show Walk _ _ _ _ _ _ _ _ _ _ _ _ _ _ 9 56 56 _ []
      refine Walk.lload (pc' := 58) at_56 rfl ?_
      refine Walk.lload (pc' := 60) at_58 rfl ?_
      refine Walk.lconst (pc' := 61) (0 : Int64) at_60 rfl ?_
      refine Walk.lcmp (pc' := 62) at_61 ?_
      refine Walk.ifYes (pc' := 71) at_62 (XT.ll_le_t h3) ?_
      refine Walk.lconst (pc' := 72) (0 : Int64) at_71 rfl ?_
      refine Walk.lcmp (pc' := 73) at_72 ?_
      refine Walk.ifNo (pc' := 76) at_73 (XT.ll_ne_f rfl) ?_
      refine Walk.iconst (pc' := 77) (1 : Int32) at_76 rfl ?_
      refine Walk.goto (pc' := 81) at_77 ?_
      refine Walk.istore (pc' := 83) (Ls' := #[.val (.int p0), .val (.long p1), .second, .val (.int p2), .val (.long p3), .second, .val (.int p4), .val (.long p5), .second, .val (.ref x187), .val (.ref x208), .val (.ref x229), .val (.long (0 : Int64)), .second, .val (.int (1 : Int32))]) at_81 rfl ?_
      refine Walk.iload (pc' := 85) at_83 rfl ?_
      refine Walk.ifNo (pc' := 88) at_85 (XT.i0_eq_f (by decide)) ?_
      refine Walk.aload (pc' := 90) at_88 rfl rfl ?_
      refine Walk.callV (pc' := 93) (a := x187) (Wd := 0) (as := []) (rest := []) (wd55 hw) (wd56 hw) (wd58 hw) (wd58 hw) (wd57 hw) (((((E191.kq K205).kq K207).kq K226).kq K228).kq K550) ((c_foot0 hw x187 ni _ ((((((A1.kq K186 (fun _ => (fun q => q))).kq K205 (fun _ => (not_or.mpr ⟨(nw (ltne A1.lt g188)), (not_or.mpr ⟨(nw (ltne A1.lt g188)), (nw (ltne A1.lt g188))⟩)⟩))).kq K207 (fun _ => (fun q => q))).kq K226 (fun _ => (not_or.mpr ⟨(nw (ltne ((A1.kq K186 (fun _ => (fun q => q))).kq K205 (fun _ => (not_or.mpr ⟨(nw (ltne A1.lt g188)), (not_or.mpr ⟨(nw (ltne A1.lt g188)), (nw (ltne A1.lt g188))⟩)⟩))).lt g209)), (not_or.mpr ⟨(nw (ltne ((A1.kq K186 (fun _ => (fun q => q))).kq K205 (fun _ => (not_or.mpr ⟨(nw (ltne A1.lt g188)), (not_or.mpr ⟨(nw (ltne A1.lt g188)), (nw (ltne A1.lt g188))⟩)⟩))).lt g209)), (nw (ltne ((A1.kq K186 (fun _ => (fun q => q))).kq K205 (fun _ => (not_or.mpr ⟨(nw (ltne A1.lt g188)), (not_or.mpr ⟨(nw (ltne A1.lt g188)), (nw (ltne A1.lt g188))⟩)⟩))).lt g209))⟩)⟩))).kq K228 (fun _ => (fun q => q))).kq K550 (fun _ => (not_or.mpr ⟨(nwb (ltne A1.lt g188)), (nwb (ltne ((A1.kq K186 (fun _ => (fun q => q))).kq K205 (fun _ => (not_or.mpr ⟨(nw (ltne A1.lt g188)), (not_or.mpr ⟨(nw (ltne A1.lt g188)), (nw (ltne A1.lt g188))⟩)⟩))).lt g209))⟩))) F537).pay (wd59 hw) (wd2 hw) (by decide) (by decide)) (hlen := lenOf pd9 rfl) (hd := at_90) (hst := rfl) (hW := Nat.le_of_eq rfl) (hsz := rfl) (hc1 := Nat.le_of_ble_eq_true rfl) (hl1 := Nat.le_of_ble_eq_true rfl) (hv := Fw.upN) (kk := fun v551 h555 Ts552 Li553 q554 K556 => ?_)
      obtain ⟨rfl, rfl, rfl, rfl⟩ := q554
      show Walk _ _ _ _ _ _ _ _ _ _ _ _ _ _ 9 56 93 _ [(.long (0 : Int64))]
      refine Walk.lload (pc' := 95) at_93 rfl ?_
      refine Walk.lcmp (pc' := 96) at_95 ?_
      refine Walk.ifNo (pc' := 99) at_96 (XT.ll_ne_f rfl) ?_
      refine Walk.iconst (pc' := 100) (1 : Int32) at_99 rfl ?_
      refine Walk.goto (pc' := 104) at_100 ?_
      refine Walk.istore (pc' := 106) (Ls' := #[.val (.int p0), .val (.long p1), .second, .val (.int p2), .val (.long p3), .second, .val (.int p4), .val (.long p5), .second, .val (.ref x187), .val (.ref x208), .val (.ref x229), .val (.long (0 : Int64)), .second, .val (.int (1 : Int32))]) at_104 rfl ?_
      refine Walk.iload (pc' := 108) at_106 rfl ?_
      refine Walk.ifNo (pc' := 111) at_108 (XT.i0_eq_f (by decide)) ?_
      refine Walk.aload (pc' := 113) at_111 rfl rfl ?_
      refine Walk.callV (pc' := 116) (a := x208) (Wd := 0) (as := []) (rest := []) (wd55 hw) (wd56 hw) (wd58 hw) (wd58 hw) (wd57 hw) (((E212.kq K226).kq K228).kq K550) ((c_foot0 hw x208 ni _ ((((((A1.kq K186 (fun _ => (fun q => q))).kq K205 (fun _ => (not_or.mpr ⟨(nw (ltne A1.lt g188)), (not_or.mpr ⟨(nw (ltne A1.lt g188)), (nw (ltne A1.lt g188))⟩)⟩))).kq K207 (fun _ => (fun q => q))).kq K226 (fun _ => (not_or.mpr ⟨(nw (ltne ((A1.kq K186 (fun _ => (fun q => q))).kq K205 (fun _ => (not_or.mpr ⟨(nw (ltne A1.lt g188)), (not_or.mpr ⟨(nw (ltne A1.lt g188)), (nw (ltne A1.lt g188))⟩)⟩))).lt g209)), (not_or.mpr ⟨(nw (ltne ((A1.kq K186 (fun _ => (fun q => q))).kq K205 (fun _ => (not_or.mpr ⟨(nw (ltne A1.lt g188)), (not_or.mpr ⟨(nw (ltne A1.lt g188)), (nw (ltne A1.lt g188))⟩)⟩))).lt g209)), (nw (ltne ((A1.kq K186 (fun _ => (fun q => q))).kq K205 (fun _ => (not_or.mpr ⟨(nw (ltne A1.lt g188)), (not_or.mpr ⟨(nw (ltne A1.lt g188)), (nw (ltne A1.lt g188))⟩)⟩))).lt g209))⟩)⟩))).kq K228 (fun _ => (fun q => q))).kq K550 (fun _ => (not_or.mpr ⟨(nwb (ltne A1.lt g188)), (nwb (ltne ((A1.kq K186 (fun _ => (fun q => q))).kq K205 (fun _ => (not_or.mpr ⟨(nw (ltne A1.lt g188)), (not_or.mpr ⟨(nw (ltne A1.lt g188)), (nw (ltne A1.lt g188))⟩)⟩))).lt g209))⟩))) F541).pay (wd59 hw) (wd2 hw) (by decide) (by decide)) (hlen := lenOf pd9 rfl) (hd := at_113) (hst := rfl) (hW := Nat.le_of_eq rfl) (hsz := rfl) (hc1 := Nat.le_of_ble_eq_true rfl) (hl1 := Nat.le_of_ble_eq_true rfl) (hv := Fw.upN) (kk := fun v557 h561 Ts558 Li559 q560 K562 => ?_)
      obtain ⟨rfl, rfl, rfl, rfl⟩ := q560
      show Walk _ _ _ _ _ _ _ _ _ _ _ _ _ _ 9 56 116 _ [(.long (0 : Int64))]
      refine Walk.lconst (pc' := 117) (0 : Int64) at_116 rfl ?_
      refine Walk.lcmp (pc' := 118) at_117 ?_
      refine Walk.ifNo (pc' := 121) at_118 (XT.ll_ne_f rfl) ?_
      refine Walk.iconst (pc' := 122) (1 : Int32) at_121 rfl ?_
      refine Walk.goto (pc' := 126) at_122 ?_
      refine Walk.istore (pc' := 128) (Ls' := #[.val (.int p0), .val (.long p1), .second, .val (.int p2), .val (.long p3), .second, .val (.int p4), .val (.long p5), .second, .val (.ref x187), .val (.ref x208), .val (.ref x229), .val (.long (0 : Int64)), .second, .val (.int (1 : Int32))]) at_126 rfl ?_
      refine Walk.iload (pc' := 130) at_128 rfl ?_
      refine Walk.ifNo (pc' := 133) at_130 (XT.i0_eq_f (by decide)) ?_
      refine Walk.aload (pc' := 135) at_133 rfl rfl ?_
      refine Walk.iloadN (pc' := 136) at_135 rfl ?_
      refine Walk.aload (pc' := 138) at_136 rfl rfl ?_
      refine Walk.aconstNull (pc' := 139) at_138 ?_
      refine Walk.callV (pc' := 142) (a := x187) (Wd := 0) (as := [(.int p2), (.ref x229), .null]) (rest := []) (wd66 hw) (wd67 hw) (wd69 hw) (wd69 hw) (wd68 hw) (((((E191.kq K205).kq K207).kq K226).kq K228).kq K550) ((c_ce0 hw x187 ni x229 p2 _ _ 0 ((((((A1.kq K186 (fun _ => (fun q => q))).kq K205 (fun _ => (not_or.mpr ⟨(nw (ltne A1.lt g188)), (not_or.mpr ⟨(nw (ltne A1.lt g188)), (nw (ltne A1.lt g188))⟩)⟩))).kq K207 (fun _ => (fun q => q))).kq K226 (fun _ => (not_or.mpr ⟨(nw (ltne ((A1.kq K186 (fun _ => (fun q => q))).kq K205 (fun _ => (not_or.mpr ⟨(nw (ltne A1.lt g188)), (not_or.mpr ⟨(nw (ltne A1.lt g188)), (nw (ltne A1.lt g188))⟩)⟩))).lt g209)), (not_or.mpr ⟨(nw (ltne ((A1.kq K186 (fun _ => (fun q => q))).kq K205 (fun _ => (not_or.mpr ⟨(nw (ltne A1.lt g188)), (not_or.mpr ⟨(nw (ltne A1.lt g188)), (nw (ltne A1.lt g188))⟩)⟩))).lt g209)), (nw (ltne ((A1.kq K186 (fun _ => (fun q => q))).kq K205 (fun _ => (not_or.mpr ⟨(nw (ltne A1.lt g188)), (not_or.mpr ⟨(nw (ltne A1.lt g188)), (nw (ltne A1.lt g188))⟩)⟩))).lt g209))⟩)⟩))).kq K228 (fun _ => (fun q => q))).kq K550 (fun _ => (not_or.mpr ⟨(nwb (ltne A1.lt g188)), (nwb (ltne ((A1.kq K186 (fun _ => (fun q => q))).kq K205 (fun _ => (not_or.mpr ⟨(nw (ltne A1.lt g188)), (not_or.mpr ⟨(nw (ltne A1.lt g188)), (nw (ltne A1.lt g188))⟩)⟩))).lt g209))⟩))) (A233.kq K550 (fun _ => (not_or.mpr ⟨(nwb (gtne (((E191.kq K205).kq K207).kq K226).lt g230)), (nwb (gtne (E212.kq K226).lt g230))⟩))) F537 F540).pay (wd70 hw) (wd2 hw) (by decide) (by decide)) (hlen := lenOf pd11 rfl) (hd := at_139) (hst := rfl) (hW := Nat.le_of_eq rfl) (hsz := rfl) (hc1 := Nat.le_of_ble_eq_true rfl) (hl1 := Nat.le_of_ble_eq_true rfl) (hv := Fw.upN) (kk := fun v563 h567 Ts564 Li565 q566 K568 => ?_)
      obtain ⟨rfl, rfl, rfl, rfl⟩ := q566
      show Walk _ _ _ _ _ _ _ _ _ _ _ _ _ _ 9 56 142 _ [(.int (1 : Int32))]
      refine Walk.ifNo (pc' := 145) at_142 (XT.i0_eq_f (by decide)) ?_
      refine Walk.iconst (pc' := 146) (1 : Int32) at_145 rfl ?_
      refine Walk.goto (pc' := 150) at_146 ?_
      refine Walk.istore (pc' := 152) (Ls' := #[.val (.int p0), .val (.long p1), .second, .val (.int p2), .val (.long p3), .second, .val (.int p4), .val (.long p5), .second, .val (.ref x187), .val (.ref x208), .val (.ref x229), .val (.long (0 : Int64)), .second, .val (.int (1 : Int32))]) at_150 rfl ?_
      refine Walk.iload (pc' := 154) at_152 rfl ?_
      refine Walk.ifNo (pc' := 157) at_154 (XT.i0_eq_f (by decide)) ?_
      refine Walk.aload (pc' := 159) at_157 rfl rfl ?_
      refine Walk.iloadN (pc' := 160) at_159 rfl ?_
      refine Walk.aload (pc' := 162) at_160 rfl rfl ?_
      refine Walk.aconstNull (pc' := 163) at_162 ?_
      refine Walk.callV (pc' := 166) (a := x208) (Wd := 0) (as := [(.int p2), (.ref x229), .null]) (rest := []) (wd66 hw) (wd67 hw) (wd69 hw) (wd69 hw) (wd68 hw) (((E212.kq K226).kq K228).kq K550) ((c_ce0 hw x208 ni x229 p2 _ _ 0 ((((((A1.kq K186 (fun _ => (fun q => q))).kq K205 (fun _ => (not_or.mpr ⟨(nw (ltne A1.lt g188)), (not_or.mpr ⟨(nw (ltne A1.lt g188)), (nw (ltne A1.lt g188))⟩)⟩))).kq K207 (fun _ => (fun q => q))).kq K226 (fun _ => (not_or.mpr ⟨(nw (ltne ((A1.kq K186 (fun _ => (fun q => q))).kq K205 (fun _ => (not_or.mpr ⟨(nw (ltne A1.lt g188)), (not_or.mpr ⟨(nw (ltne A1.lt g188)), (nw (ltne A1.lt g188))⟩)⟩))).lt g209)), (not_or.mpr ⟨(nw (ltne ((A1.kq K186 (fun _ => (fun q => q))).kq K205 (fun _ => (not_or.mpr ⟨(nw (ltne A1.lt g188)), (not_or.mpr ⟨(nw (ltne A1.lt g188)), (nw (ltne A1.lt g188))⟩)⟩))).lt g209)), (nw (ltne ((A1.kq K186 (fun _ => (fun q => q))).kq K205 (fun _ => (not_or.mpr ⟨(nw (ltne A1.lt g188)), (not_or.mpr ⟨(nw (ltne A1.lt g188)), (nw (ltne A1.lt g188))⟩)⟩))).lt g209))⟩)⟩))).kq K228 (fun _ => (fun q => q))).kq K550 (fun _ => (not_or.mpr ⟨(nwb (ltne A1.lt g188)), (nwb (ltne ((A1.kq K186 (fun _ => (fun q => q))).kq K205 (fun _ => (not_or.mpr ⟨(nw (ltne A1.lt g188)), (not_or.mpr ⟨(nw (ltne A1.lt g188)), (nw (ltne A1.lt g188))⟩)⟩))).lt g209))⟩))) (A233.kq K550 (fun _ => (not_or.mpr ⟨(nwb (gtne (((E191.kq K205).kq K207).kq K226).lt g230)), (nwb (gtne (E212.kq K226).lt g230))⟩))) F541 F544).pay (wd70 hw) (wd2 hw) (by decide) (by decide)) (hlen := lenOf pd11 rfl) (hd := at_163) (hst := rfl) (hW := Nat.le_of_eq rfl) (hsz := rfl) (hc1 := Nat.le_of_ble_eq_true rfl) (hl1 := Nat.le_of_ble_eq_true rfl) (hv := Fw.upN) (kk := fun v569 h573 Ts570 Li571 q572 K574 => ?_)
      obtain ⟨rfl, rfl, rfl, rfl⟩ := q572
      show Walk _ _ _ _ _ _ _ _ _ _ _ _ _ _ 9 56 166 _ [(.int (1 : Int32))]
      refine Walk.ifNo (pc' := 169) at_166 (XT.i0_eq_f (by decide)) ?_
      refine Walk.iconst (pc' := 170) (1 : Int32) at_169 rfl ?_
      refine Walk.goto (pc' := 174) at_170 ?_
      refine Walk.istore (pc' := 176) (Ls' := #[.val (.int p0), .val (.long p1), .second, .val (.int p2), .val (.long p3), .second, .val (.int p4), .val (.long p5), .second, .val (.ref x187), .val (.ref x208), .val (.ref x229), .val (.long (0 : Int64)), .second, .val (.int (1 : Int32))]) at_174 rfl ?_
      refine Walk.iload (pc' := 178) at_176 rfl ?_
      refine Walk.ifYes (pc' := 183) at_178 (XT.i0_ne_t (by decide)) ?_
      refine Walk.aload (pc' := 185) at_183 rfl rfl ?_
      refine Walk.iload (pc' := 187) at_185 rfl ?_
      refine Walk.lload (pc' := 189) at_187 rfl ?_
      refine Walk.lconst (pc' := 190) (1 : Int64) at_189 rfl ?_
      refine Walk.callV (pc' := 193) (a := x187) (Wd := 0) (as := [(.int p4), (.long p5), (.long (1 : Int64))]) (rest := []) (wd20 hw) (wd21 hw) (wd23 hw) (wd23 hw) (wd22 hw) (((((E191.kq K205).kq K207).kq K226).kq K228).kq K550) ((c_set1 hw x187 p4 p5 1 1 (by decide) (Or.inr ⟨by decide, rfl⟩) ni nl _ _ ((((((A1.kq K186 (fun _ => (fun q => q))).kq K205 (fun _ => (not_or.mpr ⟨(nw (ltne A1.lt g188)), (not_or.mpr ⟨(nw (ltne A1.lt g188)), (nw (ltne A1.lt g188))⟩)⟩))).kq K207 (fun _ => (fun q => q))).kq K226 (fun _ => (not_or.mpr ⟨(nw (ltne ((A1.kq K186 (fun _ => (fun q => q))).kq K205 (fun _ => (not_or.mpr ⟨(nw (ltne A1.lt g188)), (not_or.mpr ⟨(nw (ltne A1.lt g188)), (nw (ltne A1.lt g188))⟩)⟩))).lt g209)), (not_or.mpr ⟨(nw (ltne ((A1.kq K186 (fun _ => (fun q => q))).kq K205 (fun _ => (not_or.mpr ⟨(nw (ltne A1.lt g188)), (not_or.mpr ⟨(nw (ltne A1.lt g188)), (nw (ltne A1.lt g188))⟩)⟩))).lt g209)), (nw (ltne ((A1.kq K186 (fun _ => (fun q => q))).kq K205 (fun _ => (not_or.mpr ⟨(nw (ltne A1.lt g188)), (not_or.mpr ⟨(nw (ltne A1.lt g188)), (nw (ltne A1.lt g188))⟩)⟩))).lt g209))⟩)⟩))).kq K228 (fun _ => (fun q => q))).kq K550 (fun _ => (not_or.mpr ⟨(nwb (ltne A1.lt g188)), (nwb (ltne ((A1.kq K186 (fun _ => (fun q => q))).kq K205 (fun _ => (not_or.mpr ⟨(nw (ltne A1.lt g188)), (not_or.mpr ⟨(nw (ltne A1.lt g188)), (nw (ltne A1.lt g188))⟩)⟩))).lt g209))⟩))) ((((((A2.kq K186 (fun _ => (fun q => q))).kq K205 (fun _ => (not_or.mpr ⟨(nw (ltne A2.lt g188)), (not_or.mpr ⟨(nw (ltne A2.lt g188)), (nw (ltne A2.lt g188))⟩)⟩))).kq K207 (fun _ => (fun q => q))).kq K226 (fun _ => (not_or.mpr ⟨(nw (ltne ((A2.kq K186 (fun _ => (fun q => q))).kq K205 (fun _ => (not_or.mpr ⟨(nw (ltne A2.lt g188)), (not_or.mpr ⟨(nw (ltne A2.lt g188)), (nw (ltne A2.lt g188))⟩)⟩))).lt g209)), (not_or.mpr ⟨(nw (ltne ((A2.kq K186 (fun _ => (fun q => q))).kq K205 (fun _ => (not_or.mpr ⟨(nw (ltne A2.lt g188)), (not_or.mpr ⟨(nw (ltne A2.lt g188)), (nw (ltne A2.lt g188))⟩)⟩))).lt g209)), (nw (ltne ((A2.kq K186 (fun _ => (fun q => q))).kq K205 (fun _ => (not_or.mpr ⟨(nw (ltne A2.lt g188)), (not_or.mpr ⟨(nw (ltne A2.lt g188)), (nw (ltne A2.lt g188))⟩)⟩))).lt g209))⟩)⟩))).kq K228 (fun _ => (fun q => q))).kq K550 (fun _ => (not_or.mpr ⟨(nwb (ltne A2.lt g188)), (nwb (ltne ((A2.kq K186 (fun _ => (fun q => q))).kq K205 (fun _ => (not_or.mpr ⟨(nw (ltne A2.lt g188)), (not_or.mpr ⟨(nw (ltne A2.lt g188)), (nw (ltne A2.lt g188))⟩)⟩))).lt g209))⟩))) (((((E191.kq K205).kq K207).kq K226).kq K228).kq K550) F537 F538 F539 F540 g190).pay (wd24 hw) (wd2 hw) (by decide) (by decide)) (hlen := lenOf pd8 rfl) (hd := at_190) (hst := rfl) (hW := Nat.le_of_eq rfl) (hsz := rfl) (hc1 := Nat.le_of_ble_eq_true rfl) (hl1 := Nat.le_of_ble_eq_true rfl) (hv := (Fw.up (fun y q => Or.inl (q ▸ g189)))) (kk := fun v592 h596 Ts593 Li594 q595 K597 => ?_)
      obtain ⟨⟨rfl, rfl, rfl⟩, s575, t576, l577, f578, gs579, gt580, gl581, n1582, n2583, n3584, F1585, F2586, F3587, F4588, As589, At590, Al591⟩ := q595
      show Walk _ _ _ _ _ _ _ _ _ _ _ _ _ _ 12 80 193 _ []
      refine Walk.aload (pc' := 195) at_193 rfl rfl ?_
      refine Walk.callV (pc' := 198) (a := x187) (Wd := 0) (as := []) (rest := []) (wd55 hw) (wd56 hw) (wd58 hw) (wd58 hw) (wd57 hw) ((((((E191.kq K205).kq K207).kq K226).kq K228).kq K550).kq K597) ((c_foot8 hw x187 s575 _ As589 F1585).pay (wd59 hw) (wd2 hw) (by decide) (by decide)) (hlen := lenOf pd9 rfl) (hd := at_195) (hst := rfl) (hW := Nat.le_of_eq rfl) (hsz := rfl) (hc1 := Nat.le_of_ble_eq_true rfl) (hl1 := Nat.le_of_ble_eq_true rfl) (hv := Fw.upN) (kk := fun v598 h602 Ts599 Li600 q601 K603 => ?_)
      obtain ⟨rfl, rfl, rfl, rfl⟩ := q601
      show Walk _ _ _ _ _ _ _ _ _ _ _ _ _ _ 12 80 198 _ [(.long (128 : Int64))]
      refine Walk.ldcJ (pc' := 201) (wd80 hw) at_198 ?_
      refine Walk.lcmp (pc' := 202) at_201 ?_
      refine Walk.ifNo (pc' := 205) at_202 (XT.ll_ne_f rfl) ?_
      refine Walk.iconst (pc' := 206) (1 : Int32) at_205 rfl ?_
      refine Walk.goto (pc' := 210) at_206 ?_
      refine Walk.istore (pc' := 212) (Ls' := #[.val (.int p0), .val (.long p1), .second, .val (.int p2), .val (.long p3), .second, .val (.int p4), .val (.long p5), .second, .val (.ref x187), .val (.ref x208), .val (.ref x229), .val (.long (0 : Int64)), .second, .val (.int (1 : Int32))]) at_210 rfl ?_
      refine Walk.iload (pc' := 214) at_212 rfl ?_
      refine Walk.ifNo (pc' := 217) at_214 (XT.i0_eq_f (by decide)) ?_
      refine Walk.aload (pc' := 219) at_217 rfl rfl ?_
      refine Walk.iload (pc' := 221) at_219 rfl ?_
      refine Walk.aload (pc' := 223) at_221 rfl rfl ?_
      refine Walk.aconstNull (pc' := 224) at_223 ?_
      refine Walk.callV (pc' := 227) (a := x187) (Wd := 0) (as := [(.int p4), (.ref x229), .null]) (rest := []) (wd66 hw) (wd67 hw) (wd69 hw) (wd69 hw) (wd68 hw) ((((((E191.kq K205).kq K207).kq K226).kq K228).kq K550).kq K597) ((c_ce1 hw x187 s575 l577 x229 p4 _ _ _ _ As589 Al591 ((A233.kq K550 (fun _ => (not_or.mpr ⟨(nwb (gtne (((E191.kq K205).kq K207).kq K226).lt g230)), (nwb (gtne (E212.kq K226).lt g230))⟩))).kq K597 (fun _ => (nwb (gtne (((E191.kq K205).kq K207).kq K226).lt g230)))) F1585 F3587 F4588 rfl rfl (by decide)).pay (wd70 hw) (wd2 hw) (by decide) (by decide)) (hlen := lenOf pd11 rfl) (hd := at_224) (hst := rfl) (hW := Nat.le_of_eq rfl) (hsz := rfl) (hc1 := Nat.le_of_ble_eq_true rfl) (hl1 := Nat.le_of_ble_eq_true rfl) (hv := Fw.upN) (kk := fun v604 h608 Ts605 Li606 q607 K609 => ?_)
      obtain ⟨rfl, rfl, rfl, rfl⟩ := q607
      show Walk _ _ _ _ _ _ _ _ _ _ _ _ _ _ 12 80 227 _ [(.int (0 : Int32))]
      refine Walk.ifNo (pc' := 230) at_227 (XT.i0_ne_f rfl) ?_
      refine Walk.iconst (pc' := 231) (1 : Int32) at_230 rfl ?_
      refine Walk.goto (pc' := 235) at_231 ?_
      refine Walk.istore (pc' := 237) (Ls' := #[.val (.int p0), .val (.long p1), .second, .val (.int p2), .val (.long p3), .second, .val (.int p4), .val (.long p5), .second, .val (.ref x187), .val (.ref x208), .val (.ref x229), .val (.long (0 : Int64)), .second, .val (.int (1 : Int32))]) at_235 rfl ?_
      refine Walk.iload (pc' := 239) at_237 rfl ?_
      exact Walk.nret at_239 rfl (by simp) ⟨rfl, rfl⟩ (fun _ q => q) (Nat.le_of_ble_eq_true rfl) (Nat.le_of_ble_eq_true rfl)
set_option maxRecDepth 65536 in
set_option maxHeartbeats 40000000 in
theorem comes_1 {Post : Tables → Env → Array Value → State → Outcome → State → Prop} (hpost : ∀ tb e args s v u, (limb_1_1.after args s (.returned v) u = true ∧ limb_1_2.after args s (.returned v) u = true ∧ True) → Framed s (.returned v) u (Jvm.fieldLocs frame_1_writes args s ++ Jvm.arrayLocs frame_1_arrays args s ++ Jvm.staticLocs frame_1_statics s) 32 192 → Post tb e args s (.returned v) u) :
    ArmFor flags0 classFile x code maxLocals ret World_1 tables_1 room_1 Calls_1 rest_1 Pre_1 Post := by
  intro l hfl _ _ p e ha hc hk s m args below hf hA hF happ hP
  obtain ⟨hcalls, hrest, hpre⟩ := hP
  obtain ⟨-, -, -, hnamed, -, -, -, hat⟩ := (Spec.applies_iff hf).mp happ
  obtain ⟨hg, hn⟩ := and_e (Cond.before_iff.mp (show (Jvm.Cond.and given_1 narrow_1).before args s = true from hpre))
  obtain ⟨h1, b0⟩ := and_e hg
  obtain ⟨a0, b1⟩ := and_e b0
  obtain ⟨a1, b2⟩ := and_e b1
  obtain ⟨a2, b3⟩ := and_e b2
  obtain ⟨a3, b4⟩ := and_e b3
  obtain ⟨a4, b5⟩ := and_e b4
  obtain ⟨u0, u1, u2, u3, u4, u5, rfl⟩ : ∃ u0 u1 u2 u3 u4 u5 : Value, args = #[u0, u1, u2, u3, u4, u5] := by
    have hs : args.size = 6 := by simpa [Cond.value, given_1] using h1
    obtain ⟨L⟩ := args
    match L, hs with
    | [u0, u1, u2, u3, u4, u5], _ => exact ⟨u0, u1, u2, u3, u4, u5, rfl⟩
  have hw := fun d (hd : d ∈ tables_1) => atoms_spec (ws := Jvm.Cond.code x code maxLocals ret :: tables_1) hat d (List.mem_cons_of_mem _ hd)
  obtain ⟨p0, e0⟩ := is_v a0
  obtain rfl : u0 = (.int p0) := Option.some.inj e0
  obtain ⟨p1, e1⟩ := isL_v a1
  obtain rfl : u1 = (.long p1) := Option.some.inj e1
  obtain ⟨p2, e2⟩ := is_v a2
  obtain rfl : u2 = (.int p2) := Option.some.inj e2
  obtain ⟨p3, e3⟩ := isL_v a3
  obtain rfl : u3 = (.long p3) := Option.some.inj e3
  obtain ⟨p4, e4⟩ := is_v a4
  obtain rfl : u4 = (.int p4) := Option.some.inj e4
  obtain ⟨p5, e5⟩ := isL_v b5
  obtain rfl : u5 = (.long p5) := Option.some.inj e5
  obtain ⟨n1, m1⟩ := and_e hn
  obtain ⟨-, m2⟩ := and_e m1
  obtain ⟨n3, m3⟩ := and_e m2
  obtain ⟨n4, m4⟩ := and_e m3
  obtain ⟨-, n6⟩ := and_e m4
  obtain ⟨ni, ei⟩ := arr_v n1
  obtain ⟨nl, el⟩ := arr_v n4
  have S1 : Sta s s.heap "com/example/outerview/outerview/ctf/Texts" "NO_INTS" "[I" (.ref ni) := Sta.start ei (Or.inr ⟨(wd2 hw), (wd10 hw)⟩)
  have S2 : Sta s s.heap "com/example/outerview/outerview/ctf/Texts" "NO_LONGS" "[J" (.ref nl) := Sta.start el (Or.inr ⟨(wd2 hw), (wd14 hw)⟩)
  obtain ⟨n, o, h1, h2, h3, v, L, Ts', Li', rfl, hq, hls, N, hws, hE⟩ := c_law hw p0 p1 p2 p3 p4 p5 ni nl S1 S2 (own_av0 _ ei n1 n3) (own_av0 _ el n4 n6) l tables_1 p e ha hc hk s m _ below hf ((Spec.applies_iff_loose hf).mp happ).1 ⟨rfl, State.Warmed39.refl s, rfl, ⟨Nat.le_refl _, fun _ _ q => q⟩, LS.start⟩ trivial
  obtain ⟨rfl, hT⟩ := hq
  refine ⟨n, _, h1, h2, h3, hpost _ _ _ _ _ _ ⟨Cond.after_iff.mpr rfl, Cond.after_iff.mpr (eq_i res_at (Term.int_eval (1)) rfl), trivial⟩ ⟨hE.1, hls.2.1 hT, (hE.2.2.2.sift fun y hy => Or.inr (N y hy)).mono (by decide) (by decide)⟩⟩
theorem main_1_1 : Claimed_1_1 := comes_1 fun _ _ _ _ _ _ h hF => ⟨h.1, hF⟩
theorem main_1_2 : Claimed_1_2 := comes_1 fun _ _ _ _ _ _ h hF => ⟨h.2.1, hF⟩
end Jvm.Pilot.@@N@@
namespace Jvm.Pilot.@@N@@
open Jvm Jvm.ClassFile Sem Op Lib Jvm.Free Jvm.Stand Jvm.Pilot.@@N@@.Jvm.D
/-! MADE BY PROGRAM (witnessworld.py) out of the Statement's table words and the real class files: 14 classes; the members and pool entries that the words name. The judged class is class 1, her method 1. -/
namespace start1
open Jvm.ClassFile
def u (s : String) : CpInfo := .utf8 (stringToUtf16 s)
/-- a pool by its gaps: so many unusable entries, then the entry; so many at the end -/
def gap : Nat → List CpInfo → List CpInfo
  | 0, r => r
  | n + 1, r => .unusable :: gap n r
def poolList (es : List (Nat × CpInfo)) (last : Nat) : List CpInfo := es.foldr (fun e r => gap e.1 (e.2 :: r)) (gap last [])
def pool (es : List (Nat × CpInfo)) (last : Nat) : Array CpInfo := ⟨poolList es last⟩
def fileOf (pool : Array CpInfo) (this : Nat) (attrs : Array Attribute := #[]) (ms : Array MethodInfo := #[]) (fl : Nat := 33) (sup : Nat := 0) (ifs : Array Nat := #[]) (fds : Array FieldInfo := #[]) : ClassFile where
  minorVersion := 0
  majorVersion := 65
  constantPool := pool
  accessFlags := fl
  thisClass := this
  superClass := sup
  interfaces := ifs
  fields := fds
  methods := ms
  attributes := attrs
def plain (name : String) (sup : Option ClassId) : Class where
  name := name
  kind := .ordinary
  loader := none
  accessFlags := 33
  super := sup
  interfaces := #[]
  cf := none
  fields := #[]
  methods := #[]
  instanceTypes := #[]
  staticTypes := #[]
  resolved := #[]
  callSites := []
  init := .initialized
  statics := none
  mirror := none

def pool0 : Array CpInfo := pool [(5, u "<init>"), (0, u "()V"), (1, .class_ 10), (1, u "java/lang/Object")] 113

def k0c0 : Code := { maxStack := 0, maxLocals := 1, code := object_method_1_code, exceptionTable := #[], attributes := #[] }
def k0m0 : Method := { name := "<init>", desc := "()V", sig := { parameters := [], returnType := none }, accessFlags := 1, code := some k0c0 }
/-- java/lang/Object -/
def k0 : Class := { plain "java/lang/Object" none with
  accessFlags := 33
  interfaces := #[]
  cf := some (fileOf pool0 8 #[] #[{ accessFlags := 1, nameIndex := 5, descriptorIndex := 6, attributes := #[] }] 33 0 #[] #[])
  fields := #[]
  methods := #[k0m0]
  instanceTypes := #[]
  staticTypes := #[]
  resolved := Array.replicate 124 none
  statics := none }

def pool1 : Array CpInfo := pool [(2, .class_ 4), (0, .nameAndType 5 6), (0, u "java/lang/Object"), (0, u "<init>"), (0, u "()V"), (0, .class_ 8), (0, u "com/example/outerview/outerview/ctf/Texts"), (0, .methodref 7 3), (0, .methodref 7 11), (0, .nameAndType 12 13), (0, u "set"), (0, u "(IJJ)V"), (0, .methodref 7 15), (0, .nameAndType 16 17), (0, u "footprint"), (0, u "()J"), (0, .methodref 7 19), (0, .nameAndType 20 21), (0, u "take"), (0, u "(Lcom/example/outerview/outerview/ctf/Texts;)V"), (0, .long 128), (1, .methodref 7 25), (0, .nameAndType 26 27), (0, u "contentEquals"), (0, u "(I[BLcom/example/outerview/outerview/ctf/BitInput;)Z"), (0, .class_ 29), (0, u "com/example/outerview/outerview/ctf/TextsTakePinLaw"), (2, u "law"), (0, u "(IJIJIJ)Z")] 8

def k1m0 : Method := { name := "<init>", desc := "()V", sig := { parameters := [], returnType := none }, accessFlags := 1, code := none }
def k1c1 : Code := { maxStack := 6, maxLocals := 15, code := code, exceptionTable := #[], attributes := #[] }
def k1m1 : Method := { name := "law", desc := "(IJIJIJ)Z", sig := { parameters := [.int, .long, .int, .long, .int, .long], returnType := some .boolean }, accessFlags := 9, code := some k1c1 }
/-- com/example/outerview/outerview/ctf/TextsTakePinLaw -/
def k1 : Class := { plain "com/example/outerview/outerview/ctf/TextsTakePinLaw" (some 0) with
  accessFlags := 49
  interfaces := #[]
  cf := some (fileOf pool1 28 #[] #[{ accessFlags := 1, nameIndex := 5, descriptorIndex := 6, attributes := #[] }, { accessFlags := 9, nameIndex := 32, descriptorIndex := 33, attributes := #[] }] 49 2 #[] #[])
  fields := #[]
  methods := #[k1m0, k1m1]
  instanceTypes := #[]
  staticTypes := #[]
  resolved := Array.replicate 42 none
  statics := none }

def pool2 : Array CpInfo := pool [(5, .class_ 6), (0, u "com/example/outerview/outerview/ctf/Texts"), (0, .methodref 8 9), (0, .class_ 10), (0, .nameAndType 11 12), (0, u "java/lang/Object"), (0, u "<init>"), (0, u "()V"), (0, .fieldref 5 14), (0, .nameAndType 15 16), (0, u "NO_INTS"), (0, u "[I"), (0, .fieldref 5 18), (0, .nameAndType 19 16), (0, u "slots"), (0, .fieldref 5 21), (0, .nameAndType 22 23), (0, u "NO_LONGS"), (0, u "[J"), (0, .fieldref 5 25), (0, .nameAndType 26 23), (0, u "starts"), (0, .fieldref 5 28), (0, .nameAndType 29 16), (0, u "lengths"), (0, .fieldref 5 31), (0, .nameAndType 32 33), (0, u "held"), (0, u "I"), (0, .methodref 35 36), (0, .class_ 37), (0, .nameAndType 38 39), (0, u "java/lang/Math"), (0, u "max"), (0, u "(II)I"), (0, .methodref 5 41), (0, .nameAndType 42 43), (0, u "resize"), (0, u "(I)V"), (0, .long 16), (3, .long 1048576), (1, .methodref 35 51), (0, .nameAndType 52 53), (0, u "min"), (0, u "(JJ)J"), (0, .methodref 55 56), (0, .class_ 57), (0, .nameAndType 58 59), (0, u "java/util/Arrays"), (0, u "copyOf"), (0, u "([II)[I"), (0, .methodref 55 61), (0, .nameAndType 58 62), (0, u "([JI)[J"), (0, .methodref 55 64), (0, .nameAndType 65 66), (0, u "binarySearch"), (0, u "([IIII)I"), (21, u "ENTRY_BYTES"), (2, u "KEPT"), (6, u "take"), (0, u "(Lcom/example/outerview/outerview/ctf/Texts;)V"), (0, u "footprint"), (0, u "()J"), (0, u "set"), (0, u "(IJJ)V"), (7, u "contentEquals"), (0, u "(I[BLcom/example/outerview/outerview/ctf/BitInput;)Z")] 3

def k2c0 : Code := { maxStack := 2, maxLocals := 1, code := prog_146_method_1_code, exceptionTable := #[], attributes := #[] }
def k2m0 : Method := { name := "<init>", desc := "()V", sig := { parameters := [], returnType := none }, accessFlags := 0, code := some k2c0 }
def k2c1 : Code := { maxStack := 2, maxLocals := 2, code := prog_146_method_4_code, exceptionTable := #[], attributes := #[] }
def k2m1 : Method := { name := "take", desc := "(Lcom/example/outerview/outerview/ctf/Texts;)V", sig := { parameters := [(.object "com/example/outerview/outerview/ctf/Texts")], returnType := none }, accessFlags := 0, code := some k2c1 }
def k2c2 : Code := { maxStack := 4, maxLocals := 1, code := prog_146_method_5_code, exceptionTable := #[], attributes := #[] }
def k2m2 : Method := { name := "footprint", desc := "()J", sig := { parameters := [], returnType := some .long }, accessFlags := 0, code := some k2c2 }
def k2c3 : Code := { maxStack := 6, maxLocals := 6, code := prog_146_method_6_code, exceptionTable := #[], attributes := #[] }
def k2m3 : Method := { name := "set", desc := "(IJJ)V", sig := { parameters := [.int, .long, .long], returnType := none }, accessFlags := 0, code := some k2c3 }
def k2c4 : Code := { maxStack := 3, maxLocals := 2, code := prog_146_method_7_code, exceptionTable := #[], attributes := #[] }
def k2m4 : Method := { name := "resize", desc := "(I)V", sig := { parameters := [.int], returnType := none }, accessFlags := 2, code := some k2c4 }
def k2c5 : Code := { maxStack := 4, maxLocals := 6, code := prog_146_method_10_code, exceptionTable := #[], attributes := #[] }
def k2m5 : Method := { name := "contentEquals", desc := "(I[BLcom/example/outerview/outerview/ctf/BitInput;)Z", sig := { parameters := [.int, (.array .byte), (.object "com/example/outerview/outerview/ctf/BitInput")], returnType := some .boolean }, accessFlags := 0, code := some k2c5 }
/-- com/example/outerview/outerview/ctf/Texts -/
def k2 : Class := { plain "com/example/outerview/outerview/ctf/Texts" (some 0) with
  accessFlags := 48
  interfaces := #[]
  cf := some (fileOf pool2 5 #[] #[{ accessFlags := 0, nameIndex := 11, descriptorIndex := 12, attributes := #[] }, { accessFlags := 0, nameIndex := 98, descriptorIndex := 99, attributes := #[] }, { accessFlags := 0, nameIndex := 100, descriptorIndex := 101, attributes := #[] }, { accessFlags := 0, nameIndex := 102, descriptorIndex := 103, attributes := #[] }, { accessFlags := 2, nameIndex := 42, descriptorIndex := 43, attributes := #[] }, { accessFlags := 0, nameIndex := 111, descriptorIndex := 112, attributes := #[] }] 48 8 #[] #[{ accessFlags := 26, nameIndex := 88, descriptorIndex := 33, attributes := #[] }, { accessFlags := 26, nameIndex := 91, descriptorIndex := 33, attributes := #[] }, { accessFlags := 26, nameIndex := 15, descriptorIndex := 16, attributes := #[] }, { accessFlags := 26, nameIndex := 22, descriptorIndex := 23, attributes := #[] }, { accessFlags := 2, nameIndex := 19, descriptorIndex := 16, attributes := #[] }, { accessFlags := 2, nameIndex := 26, descriptorIndex := 23, attributes := #[] }, { accessFlags := 2, nameIndex := 29, descriptorIndex := 16, attributes := #[] }, { accessFlags := 2, nameIndex := 32, descriptorIndex := 33, attributes := #[] }])
  fields := #[{ name := "ENTRY_BYTES", type := .int, accessFlags := 26, slot := 0, constantValue := 0 }, { name := "KEPT", type := .int, accessFlags := 26, slot := 1, constantValue := 0 }, { name := "NO_INTS", type := (.array .int), accessFlags := 26, slot := 2, constantValue := 0 }, { name := "NO_LONGS", type := (.array .long), accessFlags := 26, slot := 3, constantValue := 0 }, { name := "slots", type := (.array .int), accessFlags := 2, slot := 0, constantValue := 0 }, { name := "starts", type := (.array .long), accessFlags := 2, slot := 1, constantValue := 0 }, { name := "lengths", type := (.array .int), accessFlags := 2, slot := 2, constantValue := 0 }, { name := "held", type := .int, accessFlags := 2, slot := 3, constantValue := 0 }]
  methods := #[k2m0, k2m1, k2m2, k2m3, k2m4, k2m5]
  instanceTypes := #[(.array .int), (.array .long), (.array .int), .int]
  staticTypes := #[.int, .int, (.array .int), (.array .long)]
  resolved := Array.replicate 116 none
  statics := some 0 }

def pool3 : Array CpInfo := pool [(1, .class_ 2), (0, u "java/lang/Math"), (1, .class_ 6), (1, u "java/lang/Object"), (0, u "<init>"), (0, u "()V"), (89, .class_ 100), (1, u "java/lang/Math$RandomNumberGeneratorHolder"), (20, u "(JJ)J"), (50, u "negativeZeroFloatBits"), (0, u "J"), (2, u "negativeZeroDoubleBits"), (21, u "max"), (2, u "min"), (43, u "$assertionsDisabled"), (0, u "Z"), (88, u "(II)I"), (2, u "twoToTheDoubleScaleDown"), (0, u "D"), (4, u "twoToTheDoubleScaleUp"), (9, u "E"), (3, u "PI"), (2, u "TAU"), (2, u "DEGREES_TO_RADIANS"), (0, u "RADIANS_TO_DEGREES")] 94

def k3m0 : Method := { name := "<init>", desc := "()V", sig := { parameters := [], returnType := none }, accessFlags := 2, code := none }
def k3c1 : Code := { maxStack := 2, maxLocals := 2, code := jdk_29_method_65_code, exceptionTable := #[], attributes := #[] }
def k3m1 : Method := { name := "max", desc := "(II)I", sig := { parameters := [.int, .int], returnType := some .int }, accessFlags := 9, code := some k3c1 }
def k3c2 : Code := { maxStack := 2, maxLocals := 2, code := jdk_29_method_69_code, exceptionTable := #[], attributes := #[] }
def k3m2 : Method := { name := "min", desc := "(II)I", sig := { parameters := [.int, .int], returnType := some .int }, accessFlags := 9, code := some k3c2 }
def k3c3 : Code := { maxStack := 4, maxLocals := 4, code := jdk_29_method_70_code, exceptionTable := #[], attributes := #[] }
def k3m3 : Method := { name := "min", desc := "(JJ)J", sig := { parameters := [.long, .long], returnType := some .long }, accessFlags := 9, code := some k3c3 }
/-- java/lang/Math -/
def k3 : Class := { plain "java/lang/Math" (some 0) with
  accessFlags := 49
  interfaces := #[]
  cf := some (fileOf pool3 1 #[.nestMembers #[98]] #[{ accessFlags := 2, nameIndex := 7, descriptorIndex := 8, attributes := #[] }, { accessFlags := 9, nameIndex := 198, descriptorIndex := 335, attributes := #[] }, { accessFlags := 9, nameIndex := 201, descriptorIndex := 335, attributes := #[] }, { accessFlags := 9, nameIndex := 201, descriptorIndex := 121, attributes := #[] }] 49 4 #[] #[{ accessFlags := 25, nameIndex := 354, descriptorIndex := 339, attributes := #[] }, { accessFlags := 25, nameIndex := 358, descriptorIndex := 339, attributes := #[] }, { accessFlags := 25, nameIndex := 361, descriptorIndex := 339, attributes := #[] }, { accessFlags := 26, nameIndex := 364, descriptorIndex := 339, attributes := #[] }, { accessFlags := 26, nameIndex := 365, descriptorIndex := 339, attributes := #[] }, { accessFlags := 26, nameIndex := 172, descriptorIndex := 173, attributes := #[] }, { accessFlags := 26, nameIndex := 176, descriptorIndex := 173, attributes := #[] }, { accessFlags := 8, nameIndex := 344, descriptorIndex := 339, attributes := #[] }, { accessFlags := 8, nameIndex := 338, descriptorIndex := 339, attributes := #[] }, { accessFlags := 4120, nameIndex := 245, descriptorIndex := 246, attributes := #[] }])
  fields := #[{ name := "E", type := .double, accessFlags := 25, slot := 0, constantValue := 0 }, { name := "PI", type := .double, accessFlags := 25, slot := 1, constantValue := 0 }, { name := "TAU", type := .double, accessFlags := 25, slot := 2, constantValue := 0 }, { name := "DEGREES_TO_RADIANS", type := .double, accessFlags := 26, slot := 3, constantValue := 0 }, { name := "RADIANS_TO_DEGREES", type := .double, accessFlags := 26, slot := 4, constantValue := 0 }, { name := "negativeZeroFloatBits", type := .long, accessFlags := 26, slot := 5, constantValue := 0 }, { name := "negativeZeroDoubleBits", type := .long, accessFlags := 26, slot := 6, constantValue := 0 }, { name := "twoToTheDoubleScaleUp", type := .double, accessFlags := 8, slot := 7, constantValue := 0 }, { name := "twoToTheDoubleScaleDown", type := .double, accessFlags := 8, slot := 8, constantValue := 0 }, { name := "$assertionsDisabled", type := .boolean, accessFlags := 4120, slot := 9, constantValue := 0 }]
  methods := #[k3m0, k3m1, k3m2, k3m3]
  instanceTypes := #[]
  staticTypes := #[.double, .double, .double, .double, .double, .long, .long, .double, .double, .boolean]
  resolved := Array.replicate 460 none
  statics := none }

def pool4 : Array CpInfo := pool [(2, .class_ 4), (1, u "java/lang/Object"), (0, u "<init>"), (0, u "()V"), (6, .methodref 14 15), (0, .class_ 16), (0, .nameAndType 17 18), (0, u "java/util/Arrays"), (0, u "rangeCheck"), (0, u "(III)V"), (55, .class_ 76), (1, u "java/util/Arrays$NaturalOrder"), (36, .class_ 115), (1, u "java/util/Arrays$LegacyMergeSort"), (1, u "Z"), (32, .methodref 151 152), (0, .class_ 153), (0, .nameAndType 154 155), (0, u "java/lang/System"), (0, u "arraycopy"), (0, u "(Ljava/lang/Object;ILjava/lang/Object;II)V"), (51, u "binarySearch0"), (1, .methodref 14 210), (0, .nameAndType 207 211), (0, u "([IIII)I"), (90, u "copyOf"), (1, .methodref 305 306), (0, .class_ 307), (0, .nameAndType 308 309), (0, u "java/lang/Math"), (0, u "min"), (0, u "(II)I"), (65, .class_ 376), (0, u "java/util/Arrays$ArrayList"), (68, u "$assertionsDisabled"), (269, u "MIN_ARRAY_SORT_GRAN"), (0, u "I"), (2, u "INSERTIONSORT_THRESHOLD"), (74, u "binarySearch"), (76, u "([II)[I"), (0, u "([JI)[J"), (102, .class_ 976), (0, u "java/util/Arrays$ArrayItr")] 52

def k4m0 : Method := { name := "<init>", desc := "()V", sig := { parameters := [], returnType := none }, accessFlags := 2, code := none }
def k4c1 : Code := { maxStack := 4, maxLocals := 3, code := jdk_65_method_30_code, exceptionTable := #[], attributes := #[] }
def k4m1 : Method := { name := "rangeCheck", desc := "(III)V", sig := { parameters := [.int, .int, .int], returnType := none }, accessFlags := 8, code := some k4c1 }
def k4c2 : Code := { maxStack := 4, maxLocals := 4, code := jdk_65_method_58_code, exceptionTable := #[], attributes := #[] }
def k4m2 : Method := { name := "binarySearch", desc := "([IIII)I", sig := { parameters := [(.array .int), .int, .int, .int], returnType := some .int }, accessFlags := 9, code := some k4c2 }
def k4c3 : Code := { maxStack := 2, maxLocals := 8, code := jdk_65_method_59_code, exceptionTable := #[], attributes := #[] }
def k4m3 : Method := { name := "binarySearch0", desc := "([IIII)I", sig := { parameters := [(.array .int), .int, .int, .int], returnType := some .int }, accessFlags := 10, code := some k4c3 }
def k4c4 : Code := { maxStack := 6, maxLocals := 3, code := jdk_65_method_123_code, exceptionTable := #[], attributes := #[] }
def k4m4 : Method := { name := "copyOf", desc := "([II)[I", sig := { parameters := [(.array .int), .int], returnType := some (.array .int) }, accessFlags := 9, code := some k4c4 }
def k4c5 : Code := { maxStack := 6, maxLocals := 3, code := jdk_65_method_124_code, exceptionTable := #[], attributes := #[] }
def k4m5 : Method := { name := "copyOf", desc := "([JI)[J", sig := { parameters := [(.array .long), .int], returnType := some (.array .long) }, accessFlags := 9, code := some k4c5 }
/-- java/util/Arrays -/
def k4 : Class := { plain "java/util/Arrays" (some 0) with
  accessFlags := 49
  interfaces := #[]
  cf := some (fileOf pool4 14 #[.nestMembers #[975, 375, 113, 74]] #[{ accessFlags := 2, nameIndex := 5, descriptorIndex := 6, attributes := #[] }, { accessFlags := 8, nameIndex := 17, descriptorIndex := 18, attributes := #[] }, { accessFlags := 9, nameIndex := 794, descriptorIndex := 211, attributes := #[] }, { accessFlags := 10, nameIndex := 207, descriptorIndex := 211, attributes := #[] }, { accessFlags := 9, nameIndex := 302, descriptorIndex := 871, attributes := #[] }, { accessFlags := 9, nameIndex := 302, descriptorIndex := 872, attributes := #[] }] 49 2 #[] #[{ accessFlags := 26, nameIndex := 715, descriptorIndex := 716, attributes := #[] }, { accessFlags := 26, nameIndex := 719, descriptorIndex := 716, attributes := #[] }, { accessFlags := 4120, nameIndex := 445, descriptorIndex := 117, attributes := #[] }])
  fields := #[{ name := "MIN_ARRAY_SORT_GRAN", type := .int, accessFlags := 26, slot := 0, constantValue := 0 }, { name := "INSERTIONSORT_THRESHOLD", type := .int, accessFlags := 26, slot := 1, constantValue := 0 }, { name := "$assertionsDisabled", type := .boolean, accessFlags := 4120, slot := 2, constantValue := 0 }]
  methods := #[k4m0, k4m1, k4m2, k4m3, k4m4, k4m5]
  instanceTypes := #[]
  staticTypes := #[.int, .int, .boolean]
  resolved := Array.replicate 1029 none
  statics := none }

def pool5 : Array CpInfo := pool [(2, .class_ 4), (1, u "java/lang/Object"), (0, u "<init>"), (0, u "()V"), (1, .class_ 10), (1, u "java/lang/System"), (0, u "allowSecurityManager"), (0, u "I"), (16, u "cons"), (0, u "Ljava/io/Console;"), (77, .class_ 110), (1, u "java/lang/System$CallersHolder"), (43, u "initialErrStream"), (0, u "Ljava/io/PrintStream;"), (19, u "security"), (0, u "Ljava/lang/SecurityManager;"), (31, .class_ 209), (0, u "java/lang/System$1"), (7, u "props"), (0, u "Ljava/util/Properties;"), (2, u "lineSeparator"), (0, u "Ljava/lang/String;"), (96, .class_ 321), (1, u "java/lang/System$LoggerFinder"), (5, .class_ 328), (0, u "java/lang/System$Logger"), (67, u "err"), (2, u "out"), (91, u "notSupportedJnuEncoding"), (15, u "in"), (17, u "initialIn"), (0, u "Ljava/io/InputStream;"), (35, u "bootLayer"), (0, u "Ljava/lang/ModuleLayer;"), (99, .class_ 664), (0, u "java/lang/System$2"), (9, u "NEVER"), (2, u "MAYBE"), (49, u "arraycopy"), (0, u "(Ljava/lang/Object;ILjava/lang/Object;II)V"), (72, .class_ 802), (0, u "java/lang/System$Logger$Level")] 31

def k5m0 : Method := { name := "<init>", desc := "()V", sig := { parameters := [], returnType := none }, accessFlags := 2, code := none }
def k5m1 : Method := { name := "arraycopy", desc := "(Ljava/lang/Object;ILjava/lang/Object;II)V", sig := { parameters := [(.object "java/lang/Object"), .int, (.object "java/lang/Object"), .int, .int], returnType := none }, accessFlags := 265, code := none }
/-- java/lang/System -/
def k5 : Class := { plain "java/lang/System" (some 0) with
  accessFlags := 49
  interfaces := #[]
  cf := some (fileOf pool5 8 #[.nestMembers #[319, 327, 801, 108, 663, 208]] #[{ accessFlags := 2, nameIndex := 5, descriptorIndex := 6, attributes := #[] }, { accessFlags := 265, nameIndex := 727, descriptorIndex := 728, attributes := #[] }] 49 2 #[] #[{ accessFlags := 25, nameIndex := 507, descriptorIndex := 526, attributes := #[] }, { accessFlags := 25, nameIndex := 399, descriptorIndex := 155, attributes := #[] }, { accessFlags := 25, nameIndex := 396, descriptorIndex := 155, attributes := #[] }, { accessFlags := 10, nameIndex := 525, descriptorIndex := 526, attributes := #[] }, { accessFlags := 26, nameIndex := 674, descriptorIndex := 12, attributes := #[] }, { accessFlags := 26, nameIndex := 677, descriptorIndex := 12, attributes := #[] }, { accessFlags := 10, nameIndex := 11, descriptorIndex := 12, attributes := #[] }, { accessFlags := 74, nameIndex := 175, descriptorIndex := 176, attributes := #[] }, { accessFlags := 10, nameIndex := 491, descriptorIndex := 222, attributes := #[] }, { accessFlags := 74, nameIndex := 29, descriptorIndex := 30, attributes := #[] }, { accessFlags := 74, nameIndex := 154, descriptorIndex := 155, attributes := #[] }, { accessFlags := 10, nameIndex := 217, descriptorIndex := 218, attributes := #[] }, { accessFlags := 10, nameIndex := 221, descriptorIndex := 222, attributes := #[] }, { accessFlags := 8, nameIndex := 562, descriptorIndex := 563, attributes := #[] }])
  fields := #[{ name := "in", type := (.object "java/io/InputStream"), accessFlags := 25, slot := 0, constantValue := 0 }, { name := "out", type := (.object "java/io/PrintStream"), accessFlags := 25, slot := 1, constantValue := 0 }, { name := "err", type := (.object "java/io/PrintStream"), accessFlags := 25, slot := 2, constantValue := 0 }, { name := "initialIn", type := (.object "java/io/InputStream"), accessFlags := 10, slot := 3, constantValue := 0 }, { name := "NEVER", type := .int, accessFlags := 26, slot := 4, constantValue := 0 }, { name := "MAYBE", type := .int, accessFlags := 26, slot := 5, constantValue := 0 }, { name := "allowSecurityManager", type := .int, accessFlags := 10, slot := 6, constantValue := 0 }, { name := "security", type := (.object "java/lang/SecurityManager"), accessFlags := 74, slot := 7, constantValue := 0 }, { name := "notSupportedJnuEncoding", type := (.object "java/lang/String"), accessFlags := 10, slot := 8, constantValue := 0 }, { name := "cons", type := (.object "java/io/Console"), accessFlags := 74, slot := 9, constantValue := 0 }, { name := "initialErrStream", type := (.object "java/io/PrintStream"), accessFlags := 74, slot := 10, constantValue := 0 }, { name := "props", type := (.object "java/util/Properties"), accessFlags := 10, slot := 11, constantValue := 0 }, { name := "lineSeparator", type := (.object "java/lang/String"), accessFlags := 10, slot := 12, constantValue := 0 }, { name := "bootLayer", type := (.object "java/lang/ModuleLayer"), accessFlags := 8, slot := 13, constantValue := 0 }]
  methods := #[k5m0, k5m1]
  instanceTypes := #[]
  staticTypes := #[(.object "java/io/InputStream"), (.object "java/io/PrintStream"), (.object "java/io/PrintStream"), (.object "java/io/InputStream"), .int, .int, .int, (.object "java/lang/SecurityManager"), (.object "java/lang/String"), (.object "java/io/Console"), (.object "java/io/PrintStream"), (.object "java/util/Properties"), (.object "java/lang/String"), (.object "java/lang/ModuleLayer")]
  resolved := Array.replicate 834 none
  statics := none }

def pool6 : Array CpInfo := pool [(1, u "java/lang/Cloneable"), (0, .class_ 1), (0, u "java/lang/Object"), (0, .class_ 3)] 3

/-- java/lang/Cloneable -/
def k6 : Class := { plain "java/lang/Cloneable" (some 0) with
  accessFlags := 1537
  interfaces := #[]
  cf := some (fileOf pool6 2 #[] #[] 1537 4 #[] #[])
  fields := #[]
  methods := #[]
  instanceTypes := #[]
  staticTypes := #[]
  resolved := Array.replicate 8 none
  statics := none }

def pool7 : Array CpInfo := pool [(1, u "java/io/Serializable"), (0, .class_ 1), (0, u "java/lang/Object"), (0, .class_ 3)] 3

/-- java/io/Serializable -/
def k7 : Class := { plain "java/io/Serializable" (some 0) with
  accessFlags := 1537
  interfaces := #[]
  cf := some (fileOf pool7 2 #[] #[] 1537 4 #[] #[])
  fields := #[]
  methods := #[]
  instanceTypes := #[]
  staticTypes := #[]
  resolved := Array.replicate 8 none
  statics := none }

/-- the primitive byte -/
def k8 : Class := { plain "byte" none with kind := .primitive 'B', accessFlags := 0x411 }
/-- [B -/
def k9 : Class := { plain "[B" (some 0) with kind := .array 8 .byte, interfaces := #[6, 7], accessFlags := 1041 }

/-- the primitive int -/
def k10 : Class := { plain "int" none with kind := .primitive 'I', accessFlags := 0x411 }
/-- [I -/
def k11 : Class := { plain "[I" (some 0) with kind := .array 10 .int, interfaces := #[6, 7], accessFlags := 1041 }

/-- the primitive long -/
def k12 : Class := { plain "long" none with kind := .primitive 'J', accessFlags := 0x411 }
/-- [J -/
def k13 : Class := { plain "[J" (some 0) with kind := .array 12 .long, interfaces := #[6, 7], accessFlags := 1041 }

def heap : Heap := #[{ cls := 2, slots := #[.int 0, .int 0, .ref 1, .ref 2], vm := .statics 2 },
  { cls := 11, slots := #[], vm := .none },
  { cls := 13, slots := #[], vm := .none }]
def classes : Array Class := #[k0, k1, k2, k3, k4, k5, k6, k7, k8, k9, k10, k11, k12, k13]
def interned : List (Array UInt16 × Addr) := []
def slotsUsed : Nat := 4
def theMethod : MethodId := ⟨1, 1⟩
def args0 : Array Value := #[.int 5, .long 2, .int 1, .long 9, .int 7, .long 3]
def aboutOver (below : List Frame) : State where
  vm := { classes := classes, interned := interned.toArray }
  heap := heap
  slotsUsed := slotsUsed
  threads := #[{ frames := .invoking theMethod args0 :: below }]
def below0 : List Frame := [.native { method := ⟨0, 0⟩, args := #[] }]
def about1 : State := aboutOver below0
def p0 : Program := .bare "" "" ""
def e0 : Env := launch0.env 0 0 0
theorem w_frames : about1.frames = Frame.invoking theMethod args0 :: below0 := rfl
set_option maxRecDepth 65536 in
theorem w_args : argsFit about1.vm theMethod args0 = true := by decide +kernel
set_option maxRecDepth 65536 in
theorem w_heap : heapFits about1 = true := by decide +kernel
set_option maxRecDepth 65536 in
theorem w_runnable : about1.curStatus? = some .runnable := by decide +kernel
set_option maxRecDepth 65536 in
theorem w_alone : about1.alone = true := by decide +kernel
set_option maxRecDepth 65536 in
theorem w_named : about1.methodNamed? x = some theMethod := by decide +kernel
set_option maxRecDepth 65536 in
theorem w_hears : about1.hears theMethod below0 = true := by decide +kernel
set_option maxRecDepth 65536 in
theorem w_ripe : about1.ripe theMethod args0 below0 = true := by decide +kernel
theorem w_running : about1.status = .running := rfl
set_option maxRecDepth 65536 in
theorem w_room : about1.hasRoom e0.platform room_1 = true :=
  launch0.hasRoom_least _ room_1 (by decide +kernel) (by decide +kernel) (by decide +kernel) (by decide +kernel) (by decide +kernel) (by decide +kernel)
theorem allAtoms_all (ts : List Jvm.Cond) (a : Array Jvm.Value) (st : Jvm.State) : (allAtoms ts).before a st = ts.all (fun c => c.before a st) := by
  induction ts with
  | nil => rfl
  | cons c t ih =>
    show (Jvm.Cond.and c (allAtoms t)).before a st = _
    rw [Jvm.Cond.before_and, ih, List.all_cons]
def words1 : List Jvm.Cond := Jvm.Cond.code x code maxLocals ret :: tables_1
/-- a 'code' word, met by the world's own term for the bytes: nothing is compared byte by byte -/
theorem code_word {y : MethodName} {bytes : ByteArray} {mx : Nat} {rt : Option FieldType} {a : Array Value} {s : State} {m : MethodId} {meth : Method} {c : Code} (h1 : s.methodNamed? y = some m) (h2 : s.vm.method? m = some meth) (h3 : meth.code = some c) (h4 : c.code = bytes)
    (h5 : (c.maxLocals == mx && c.exceptionTable.isEmpty && decide (c.maxStack ≤ mostOperands) && decide (meth.sig.returnType = rt) && !meth.locks && decide (parseMethodDescriptor y.desc = some meth.sig)) = true) : (Jvm.Cond.code y bytes mx rt).before a s = true := by
  simp only [Bool.and_eq_true, beq_iff_eq, Bool.not_eq_true', decide_eq_true_eq] at h5
  obtain ⟨⟨⟨⟨⟨g1, g2⟩, g3⟩, g4⟩, g5⟩, g6⟩ := h5
  simp [Cond.before, Cond.holds, Cond.value, h1, h2, h3, h4, g1, g2, g3, g4, g5, g6]
def isCode : Jvm.Cond → Bool
  | .code _ _ _ _ => true
  | _ => false
theorem all_split {L : List Jvm.Cond} {P : Jvm.Cond → Bool} (h1 : L.all (fun c => isCode c || P c) = true) (h2 : ∀ c ∈ L.filter isCode, P c = true) : L.all P = true := by
  refine List.all_eq_true.mpr fun c hc => ?_
  have h := List.all_eq_true.mp h1 c hc
  rcases Bool.eq_false_or_eq_true (isCode c) with hi | hi
  · exact h2 c (List.mem_filter.mpr ⟨hc, hi⟩)
  · simpa [hi] using h
set_option maxRecDepth 65536 in
theorem w_c0 : (Jvm.Cond.code x code maxLocals ret).before args0 about1 = true := code_word (m := ⟨1, 1⟩) (meth := k1m1) (c := k1c1) (by decide +kernel) rfl rfl rfl (by decide +kernel)
set_option maxRecDepth 65536 in
theorem w_c1 : (Jvm.Cond.code ({ cls := "com/example/outerview/outerview/ctf/Texts", name := "<init>", desc := "()V" } : Jvm.MethodName) prog_146_method_1_code (1 : Nat) (Option.none : Option Jvm.ClassFile.FieldType)).before args0 about1 = true := code_word (m := ⟨2, 0⟩) (meth := k2m0) (c := k2c0) (by decide +kernel) rfl rfl rfl (by decide +kernel)
set_option maxRecDepth 65536 in
theorem w_c2 : (Jvm.Cond.code ({ cls := "java/lang/Object", name := "<init>", desc := "()V" } : Jvm.MethodName) object_method_1_code (1 : Nat) (Option.none : Option Jvm.ClassFile.FieldType)).before args0 about1 = true := code_word (m := ⟨0, 0⟩) (meth := k0m0) (c := k0c0) (by decide +kernel) rfl rfl rfl (by decide +kernel)
set_option maxRecDepth 65536 in
theorem w_c3 : (Jvm.Cond.code ({ cls := "com/example/outerview/outerview/ctf/Texts", name := "set", desc := "(IJJ)V" } : Jvm.MethodName) prog_146_method_6_code (6 : Nat) (Option.none : Option Jvm.ClassFile.FieldType)).before args0 about1 = true := code_word (m := ⟨2, 3⟩) (meth := k2m3) (c := k2c3) (by decide +kernel) rfl rfl rfl (by decide +kernel)
set_option maxRecDepth 65536 in
theorem w_c4 : (Jvm.Cond.code ({ cls := "java/lang/Math", name := "max", desc := "(II)I" } : Jvm.MethodName) jdk_29_method_65_code (2 : Nat) (Option.some Jvm.ClassFile.FieldType.int)).before args0 about1 = true := code_word (m := ⟨3, 1⟩) (meth := k3m1) (c := k3c1) (by decide +kernel) rfl rfl rfl (by decide +kernel)
set_option maxRecDepth 65536 in
theorem w_c5 : (Jvm.Cond.code ({ cls := "com/example/outerview/outerview/ctf/Texts", name := "resize", desc := "(I)V" } : Jvm.MethodName) prog_146_method_7_code (2 : Nat) (Option.none : Option Jvm.ClassFile.FieldType)).before args0 about1 = true := code_word (m := ⟨2, 4⟩) (meth := k2m4) (c := k2c4) (by decide +kernel) rfl rfl rfl (by decide +kernel)
set_option maxRecDepth 65536 in
theorem w_c6 : (Jvm.Cond.code ({ cls := "java/util/Arrays", name := "copyOf", desc := "([II)[I" } : Jvm.MethodName) jdk_65_method_123_code (3 : Nat) (Option.some (Jvm.ClassFile.FieldType.array Jvm.ClassFile.FieldType.int))).before args0 about1 = true := code_word (m := ⟨4, 4⟩) (meth := k4m4) (c := k4c4) (by decide +kernel) rfl rfl rfl (by decide +kernel)
set_option maxRecDepth 65536 in
theorem w_c7 : (Jvm.Cond.code ({ cls := "java/lang/Math", name := "min", desc := "(II)I" } : Jvm.MethodName) jdk_29_method_69_code (2 : Nat) (Option.some Jvm.ClassFile.FieldType.int)).before args0 about1 = true := code_word (m := ⟨3, 2⟩) (meth := k3m2) (c := k3c2) (by decide +kernel) rfl rfl rfl (by decide +kernel)
set_option maxRecDepth 65536 in
theorem w_c8 : (Jvm.Cond.code ({ cls := "java/util/Arrays", name := "copyOf", desc := "([JI)[J" } : Jvm.MethodName) jdk_65_method_124_code (3 : Nat) (Option.some (Jvm.ClassFile.FieldType.array Jvm.ClassFile.FieldType.long))).before args0 about1 = true := code_word (m := ⟨4, 5⟩) (meth := k4m5) (c := k4c5) (by decide +kernel) rfl rfl rfl (by decide +kernel)
set_option maxRecDepth 65536 in
theorem w_c9 : (Jvm.Cond.code ({ cls := "java/lang/Math", name := "min", desc := "(JJ)J" } : Jvm.MethodName) jdk_29_method_70_code (4 : Nat) (Option.some Jvm.ClassFile.FieldType.long)).before args0 about1 = true := code_word (m := ⟨3, 3⟩) (meth := k3m3) (c := k3c3) (by decide +kernel) rfl rfl rfl (by decide +kernel)
set_option maxRecDepth 65536 in
theorem w_c10 : (Jvm.Cond.code ({ cls := "com/example/outerview/outerview/ctf/Texts", name := "footprint", desc := "()J" } : Jvm.MethodName) prog_146_method_5_code (1 : Nat) (Option.some Jvm.ClassFile.FieldType.long)).before args0 about1 = true := code_word (m := ⟨2, 2⟩) (meth := k2m2) (c := k2c2) (by decide +kernel) rfl rfl rfl (by decide +kernel)
set_option maxRecDepth 65536 in
theorem w_c11 : (Jvm.Cond.code ({ cls := "com/example/outerview/outerview/ctf/Texts", name := "take", desc := "(Lcom/example/outerview/outerview/ctf/Texts;)V" } : Jvm.MethodName) prog_146_method_4_code (2 : Nat) (Option.none : Option Jvm.ClassFile.FieldType)).before args0 about1 = true := code_word (m := ⟨2, 1⟩) (meth := k2m1) (c := k2c1) (by decide +kernel) rfl rfl rfl (by decide +kernel)
set_option maxRecDepth 65536 in
theorem w_c12 : (Jvm.Cond.code ({ cls := "com/example/outerview/outerview/ctf/Texts", name := "contentEquals", desc := "(I[BLcom/example/outerview/outerview/ctf/BitInput;)Z" } : Jvm.MethodName) prog_146_method_10_code (6 : Nat) (Option.some Jvm.ClassFile.FieldType.boolean)).before args0 about1 = true := code_word (m := ⟨2, 5⟩) (meth := k2m5) (c := k2c5) (by decide +kernel) rfl rfl rfl (by decide +kernel)
set_option maxRecDepth 65536 in
theorem w_c13 : (Jvm.Cond.code ({ cls := "java/util/Arrays", name := "binarySearch", desc := "([IIII)I" } : Jvm.MethodName) jdk_65_method_58_code (4 : Nat) (Option.some Jvm.ClassFile.FieldType.int)).before args0 about1 = true := code_word (m := ⟨4, 2⟩) (meth := k4m2) (c := k4c2) (by decide +kernel) rfl rfl rfl (by decide +kernel)
set_option maxRecDepth 65536 in
theorem w_c14 : (Jvm.Cond.code ({ cls := "java/util/Arrays", name := "rangeCheck", desc := "(III)V" } : Jvm.MethodName) jdk_65_method_30_code (3 : Nat) (Option.none : Option Jvm.ClassFile.FieldType)).before args0 about1 = true := code_word (m := ⟨4, 1⟩) (meth := k4m1) (c := k4c1) (by decide +kernel) rfl rfl rfl (by decide +kernel)
set_option maxRecDepth 65536 in
theorem w_c15 : (Jvm.Cond.code ({ cls := "java/util/Arrays", name := "binarySearch0", desc := "([IIII)I" } : Jvm.MethodName) jdk_65_method_59_code (8 : Nat) (Option.some Jvm.ClassFile.FieldType.int)).before args0 about1 = true := code_word (m := ⟨4, 3⟩) (meth := k4m3) (c := k4c3) (by decide +kernel) rfl rfl rfl (by decide +kernel)
def codes1 : List Jvm.Cond := [Jvm.Cond.code x code maxLocals ret, Jvm.Cond.code ({ cls := "com/example/outerview/outerview/ctf/Texts", name := "<init>", desc := "()V" } : Jvm.MethodName) prog_146_method_1_code (1 : Nat) (Option.none : Option Jvm.ClassFile.FieldType), Jvm.Cond.code ({ cls := "java/lang/Object", name := "<init>", desc := "()V" } : Jvm.MethodName) object_method_1_code (1 : Nat) (Option.none : Option Jvm.ClassFile.FieldType), Jvm.Cond.code ({ cls := "com/example/outerview/outerview/ctf/Texts", name := "set", desc := "(IJJ)V" } : Jvm.MethodName) prog_146_method_6_code (6 : Nat) (Option.none : Option Jvm.ClassFile.FieldType), Jvm.Cond.code ({ cls := "java/lang/Math", name := "max", desc := "(II)I" } : Jvm.MethodName) jdk_29_method_65_code (2 : Nat) (Option.some Jvm.ClassFile.FieldType.int), Jvm.Cond.code ({ cls := "com/example/outerview/outerview/ctf/Texts", name := "resize", desc := "(I)V" } : Jvm.MethodName) prog_146_method_7_code (2 : Nat) (Option.none : Option Jvm.ClassFile.FieldType), Jvm.Cond.code ({ cls := "java/util/Arrays", name := "copyOf", desc := "([II)[I" } : Jvm.MethodName) jdk_65_method_123_code (3 : Nat) (Option.some (Jvm.ClassFile.FieldType.array Jvm.ClassFile.FieldType.int)), Jvm.Cond.code ({ cls := "java/lang/Math", name := "min", desc := "(II)I" } : Jvm.MethodName) jdk_29_method_69_code (2 : Nat) (Option.some Jvm.ClassFile.FieldType.int), Jvm.Cond.code ({ cls := "java/util/Arrays", name := "copyOf", desc := "([JI)[J" } : Jvm.MethodName) jdk_65_method_124_code (3 : Nat) (Option.some (Jvm.ClassFile.FieldType.array Jvm.ClassFile.FieldType.long)), Jvm.Cond.code ({ cls := "java/lang/Math", name := "min", desc := "(JJ)J" } : Jvm.MethodName) jdk_29_method_70_code (4 : Nat) (Option.some Jvm.ClassFile.FieldType.long), Jvm.Cond.code ({ cls := "com/example/outerview/outerview/ctf/Texts", name := "footprint", desc := "()J" } : Jvm.MethodName) prog_146_method_5_code (1 : Nat) (Option.some Jvm.ClassFile.FieldType.long), Jvm.Cond.code ({ cls := "com/example/outerview/outerview/ctf/Texts", name := "take", desc := "(Lcom/example/outerview/outerview/ctf/Texts;)V" } : Jvm.MethodName) prog_146_method_4_code (2 : Nat) (Option.none : Option Jvm.ClassFile.FieldType), Jvm.Cond.code ({ cls := "com/example/outerview/outerview/ctf/Texts", name := "contentEquals", desc := "(I[BLcom/example/outerview/outerview/ctf/BitInput;)Z" } : Jvm.MethodName) prog_146_method_10_code (6 : Nat) (Option.some Jvm.ClassFile.FieldType.boolean), Jvm.Cond.code ({ cls := "java/util/Arrays", name := "binarySearch", desc := "([IIII)I" } : Jvm.MethodName) jdk_65_method_58_code (4 : Nat) (Option.some Jvm.ClassFile.FieldType.int), Jvm.Cond.code ({ cls := "java/util/Arrays", name := "rangeCheck", desc := "(III)V" } : Jvm.MethodName) jdk_65_method_30_code (3 : Nat) (Option.none : Option Jvm.ClassFile.FieldType), Jvm.Cond.code ({ cls := "java/util/Arrays", name := "binarySearch0", desc := "([IIII)I" } : Jvm.MethodName) jdk_65_method_59_code (8 : Nat) (Option.some Jvm.ClassFile.FieldType.int)]
set_option maxRecDepth 65536 in
theorem codes_eq : words1.filter isCode = codes1 := rfl
theorem w_codes : ∀ c ∈ words1.filter isCode, c.before args0 about1 = true := by
  rw [codes_eq]
  intro c hc
  simp only [codes1, List.mem_cons, List.not_mem_nil, or_false] at hc
  rcases hc with rfl | rfl | rfl | rfl | rfl | rfl | rfl | rfl | rfl | rfl | rfl | rfl | rfl | rfl | rfl | rfl
  · exact w_c0
  · exact w_c1
  · exact w_c2
  · exact w_c3
  · exact w_c4
  · exact w_c5
  · exact w_c6
  · exact w_c7
  · exact w_c8
  · exact w_c9
  · exact w_c10
  · exact w_c11
  · exact w_c12
  · exact w_c13
  · exact w_c14
  · exact w_c15
set_option maxRecDepth 65536 in
theorem w_t1 : (words1.take 24).all (fun c => isCode c || c.before args0 about1) = true := by decide +kernel
set_option maxRecDepth 65536 in
theorem w_t2 : ((words1.drop 24).take 24).all (fun c => isCode c || c.before args0 about1) = true := by decide +kernel
set_option maxRecDepth 65536 in
theorem w_t3 : (((words1.drop 24).drop 24).take 24).all (fun c => isCode c || c.before args0 about1) = true := by decide +kernel
set_option maxRecDepth 65536 in
theorem w_t4 : (((words1.drop 24).drop 24).drop 24).all (fun c => isCode c || c.before args0 about1) = true := by decide +kernel
theorem w_tables : (allAtoms (Jvm.Cond.code x code maxLocals ret :: tables_1)).before args0 about1 = true := by
  rw [allAtoms_all]
  show words1.all (fun c => c.before args0 about1) = true
  refine all_split ?_ w_codes
  rw [← List.take_append_drop 24 words1, List.all_append, w_t1, ← List.take_append_drop 24 (words1.drop 24), List.all_append, w_t2, ← List.take_append_drop 24 ((words1.drop 24).drop 24), List.all_append, w_t3, w_t4]
  rfl
set_option maxRecDepth 65536 in
theorem w_case : (Jvm.Cond.and given_1 narrow_1).before args0 about1 = true := by decide +kernel
theorem w_applies : (headSpec (Jvm.Cond.code x code maxLocals ret :: tables_1) room_1).applies x e0.platform about1 = true :=
  (Spec.applies_iff w_frames).mpr ⟨w_running, w_runnable, w_alone, w_named, w_hears, w_ripe, w_room, w_tables⟩
theorem atStart : AtStart classFile x code maxLocals ret World_1 tables_1 room_1 Calls_1 rest_1 Pre_1 launch0 p0 e0 about1 theMethod args0 below0 :=
  ⟨lists_1, trivial, launch0.admits_env _ _ _, launch0.least_env, fairChoices_fair.cas, fairChoices_fair.clock, w_frames, w_args, w_heap, w_applies, trivial, trivial, w_case⟩
end start1
theorem witness_1 : WitnessClaimed_1 := ⟨start1.p0, start1.e0, start1.about1, start1.theMethod, start1.args0, start1.below0, start1.atStart⟩
end Jvm.Pilot.@@N@@
