import JvmDerived
import JvmDerived.Pilot.@@N@@Statement
import JvmDerived.Pilot.@@N@@Code
set_option linter.unusedVariables false
set_option linter.unusedSimpArgs false
namespace Jvm.RoadKit
open Sem ClassFile Op Lib Jvm.Stand Jvm.Free Jvm.LawKit
section New
variable {p : Program} {l : Launch} {e : Env} {R : Room} {s : State} {m : MethodId} {args : Array Value} {below : List Frame} {meth : Method} {c : Code} {T : State} {locs : List Loc} {cells slots : Nat}
theorem retI (X : Stand p l e R s m args below meth c T locs cells slots) (hx : p.tables.exec = Jvm.exec) {pc : Nat} {Ls : Array Slot} {z : Int32} {rest : List Value} (hret : meth.sig.returnType = some .int) (hd : decode c.code pc = .ok (.ireturn, 1)) {fs : List Frame}
    (hl : ∀ (f : JFrame) (acts : List Action), f.method = m → f.locked = none → f.entered = [] → (doReturn e (T.setTop f) acts (some (.int z))).1 = T.setFrames fs) : Steps p.tables e below (T.setTop (mkF m pc Ls (.int z :: rest))) (T.setFrames fs) := by
  have hm' : T.vm.method? m = some meth := X.method'
  have hn : narrow .int (.int z) = .int z := rfl
  show Steps p.tables e below (T.setTop { method := m, pc := pc, locals := Ls, stack := _ :: rest, locked := none }) _
  jvm_step X.here [X.here.top, hx, hd, hm', hret, hn]
  first | (intro acts; rw [hl _ acts rfl rfl rfl]) | rw [hl _ _ rfl rfl rfl]
  exact Steps.refl _
theorem retR (X : Stand p l e R s m args below meth c T locs cells slots) (hx : p.tables.exec = Jvm.exec) {pc : Nat} {Ls : Array Slot} {w : Value} {t : FieldType} {rest : List Value} (hret : meth.sig.returnType = some t) (hn : narrow t w = w) (ht : t.isReference = true) (hw : w.isRef = true) (hd : decode c.code pc = .ok (.areturn, 1)) {fs : List Frame}
    (hl : ∀ (f : JFrame) (acts : List Action), f.method = m → f.locked = none → f.entered = [] → (doReturn e (T.setTop f) acts (some w)).1 = T.setFrames fs) : Steps p.tables e below (T.setTop (mkF m pc Ls (w :: rest))) (T.setFrames fs) := by
  have hm' : T.vm.method? m = some meth := X.method'
  show Steps p.tables e below (T.setTop { method := m, pc := pc, locals := Ls, stack := _ :: rest, locked := none }) _
  jvm_step X.here [X.here.top, hx, hd, hm', hret, hn, hw]
  try (refine ⟨ht, ?_⟩)
  first | (intro acts; rw [hl _ acts rfl rfl rfl]) | rw [hl _ _ rfl rfl rfl]
  exact Steps.refl _
end New
end Jvm.RoadKit
namespace Jvm.Wk
open Jvm Jvm.ClassFile Sem Op Lib Jvm.Free Jvm.Stand Jvm.LawKit Jvm.RoadKit
/-! A backward calculus of walks ('Walk'), over the library's Stand laws. -/
abbrev LiT : Type := List (String × Nat × Addr)
/-- String constants since the law's start: texts interned (among Ts); entries known to be resolved -/
abbrev TsT : Type := Option (List String)
def LS (Z : State) (vm : Vm) (Ts : TsT) (Li : LiT) : Prop := (∀ T, Ts = some T → IB Z vm T) ∧ (Ts = some [] → Z.WarmedH vm) ∧ ∀ q ∈ Li, (Z.setVm vm).resolvedAt? q.1 q.2.1 = some (.string q.2.2)
theorem LS.warm {Z s : State} {vm vm' : Vm} {Ts : TsT} {Li : LiT} (h : LS Z vm Ts Li) (hw : (s.setVm vm).WarmedH vm') : LS Z vm' Ts Li := by
  refine ⟨?_, fun hT => State.WarmedH.trans (t := s.setVm vm) (h.2.1 hT) hw, fun q hq => ?_⟩
  · intro T hT
    obtain ⟨more, e, hm⟩ := h.1 T hT
    exact ⟨more, (hw.interned_eq).trans e, hm⟩
  · exact State.resolvedAt?_warmed39 (s := s.setVm vm) hw.wide (h.2.2 q hq)
theorem LS.start {Z : State} : LS Z Z.vm (some []) [] := ⟨fun T hT => by cases hT; exact IB.start, fun _ => State.WarmedH.refl Z, fun _ q => nomatch q⟩
theorem LS.nil {Z : State} {vm : Vm} {Ts : TsT} {Li : LiT} (h : LS Z vm Ts Li) : LS Z vm Ts [] := ⟨h.1, h.2.1, fun _ q => nomatch q⟩
/-- old cells keep their kind, and their slots but for those in W -/
def Kq (h h' : Heap) (W : Loc → Prop) : Prop := h.size ≤ h'.size ∧ ∀ (a : Addr) (c : Cell), h[a]? = some c → ∃ c' : Cell, h'[a]? = some c' ∧ c'.cls = c.cls ∧ c'.vm = c.vm ∧ c'.slots.size = c.slots.size ∧ ∀ i, ¬ W ⟨a, i⟩ → c'.slots[i]? = c.slots[i]?
abbrev noW : Loc → Prop := fun _ => False
theorem Kq.refl (h : Heap) (W : Loc → Prop) : Kq h h W := ⟨Nat.le_refl _, fun _ c q => ⟨c, q, rfl, rfl, rfl, fun _ _ => rfl⟩⟩
theorem Kq.of_ext {h h' : Heap} (E : Ext h h') : Kq h h' noW := ⟨E.1, fun a c q => ⟨c, E.2 a c q, rfl, rfl, rfl, fun _ _ => rfl⟩⟩
theorem Kq.of_wr {h h' : Heap} {a : Addr} {sl : Nat} {v : Value} (W : Wr h h' a sl v) : Kq h h' (fun y => y = ⟨a, sl⟩) := by
  refine ⟨Nat.le_of_eq W.size.symm, fun b c q => ?_⟩
  obtain ⟨c', e1, e2, e3, e4, e5, e6, -⟩ := wr_at W q
  refine ⟨c', e1, e2, e3, e4, fun i hi => ?_⟩
  by_cases e : b = a
  · refine e6 i fun hj => hi ?_
    rw [e, hj]
  · rw [e5 e]
theorem Kq.trans {h h1 h2 : Heap} {W W1 W2 : Loc → Prop} (K : Kq h h1 W1) (K' : Kq h1 h2 W2) (q1 : ∀ y, W1 y → W y) (q2 : ∀ y : Loc, y.base < h.size → W2 y → W y) : Kq h h2 W := by
  refine ⟨Nat.le_trans K.1 K'.1, fun a c q => ?_⟩
  obtain ⟨c1, a1, a2, a3, a4, a5⟩ := K.2 a c q
  obtain ⟨c2, b1, b2, b3, b4, b5⟩ := K'.2 a c1 a1
  exact ⟨c2, b1, b2.trans a2, b3.trans a3, b4.trans a4, fun i hi => (b5 i fun hw => hi (q2 _ (Array.getElem?_eq_some_iff.mp q).1 hw)).trans (a5 i fun hw => hi (q1 _ hw))⟩
theorem Kq.mono {h h1 : Heap} {W W1 : Loc → Prop} (K : Kq h h1 W1) (q : ∀ y, W1 y → W y) : Kq h h1 W := ⟨K.1, fun a c e => by
  obtain ⟨c1, a1, a2, a3, a4, a5⟩ := K.2 a c e
  exact ⟨c1, a1, a2, a3, a4, fun i hi => a5 i fun hw => hi (q _ hw)⟩⟩
/-- an array: its kind, its length, what stands in it -/
def Av (Z : State) (h : Heap) (a : Addr) (ty : FieldType) (n : Nat) (f : Nat → Value) : Prop := ∃ c : Cell, Arr Z h a c ty ∧ c.slots.size = n ∧ n < 2147483648 ∧ ∀ i, i < n → c.slots[i]? = some (f i)
theorem nw {a b : Addr} {i j : Nat} (q : a ≠ b) : ¬ ((⟨a, i⟩ : Loc) = ⟨b, j⟩) := fun e => q (congrArg Loc.base e)
theorem nws {a b : Addr} {i j : Nat} (q : i ≠ j) : ¬ ((⟨a, i⟩ : Loc) = ⟨b, j⟩) := fun e => q (by cases e; rfl)
theorem nwb {a b : Addr} {i : Nat} (q : a ≠ b) : ¬ ((⟨a, i⟩ : Loc).base = b) := q
theorem ltne {a b : Addr} {n : Nat} (h : a < n) (g : n ≤ b) : a ≠ b := Nat.ne_of_lt (Nat.lt_of_lt_of_le h g)
theorem gtne {a b : Addr} {n : Nat} (h : a < n) (g : n ≤ b) : b ≠ a := Nat.ne_of_gt (Nat.lt_of_lt_of_le h g)
end Jvm.Wk
namespace Jvm.RoadKit
open Jvm Jvm.ClassFile Sem Op Lib Jvm.Free Jvm.Stand Jvm.LawKit Jvm.Wk
section Facts
variable {Z : State} {h h' : Heap} {W : Loc → Prop} {a b : Addr} {C n d : String} {v w : Value} {ty : FieldType}
theorem Fld.kq (F : Fld Z h a C n d v) (K : Kq h h' W) (q : ¬ W ⟨a, Jvm.RoadKit.slotOf Z C n d⟩) : Fld Z h' a C n d v := by
  obtain ⟨cell, cf, k, i, f, h1, h2, h3, h4, h5, h6, h7⟩ := F
  obtain ⟨c', e1, e2, e3, -, e5⟩ := K.2 _ _ h1
  refine ⟨c', cf, k, i, f, e1, h2, h3, by rw [e3]; exact h4, by rw [e3]; exact h5, by rw [e2]; exact h6, ?_⟩
  rw [e5 f.slot (by simpa [slotOf, h2] using q)]; exact h7
theorem Exa.kq (F : Exa Z h a C) (K : Kq h h' W) : Exa Z h' a C := by
  obtain ⟨cell, k, h1, h2, h3, h4, h5⟩ := F
  obtain ⟨c', e1, e2, e3, e4, -⟩ := K.2 _ _ h1
  exact ⟨c', k, e1, by rw [e2]; exact h2, by rw [e2]; exact h3, by rw [e3]; exact h4, by rw [e4]; exact h5⟩
theorem kqCell (K : Kq h h' W) {c : Cell} (e : h[a]? = some c) (q : ∀ i, ¬ W ⟨a, i⟩) : ∃ c' : Cell, h'[a]? = some c' ∧ c'.cls = c.cls ∧ c'.vm = c.vm ∧ c'.slots = c.slots := by
  obtain ⟨c', e1, e2, e3, -, e5⟩ := K.2 _ _ e
  exact ⟨c', e1, e2, e3, Array.ext_getElem? fun i => e5 i (q i)⟩
theorem Arr.kq {c : Cell} (F : Arr Z h a c ty) (K : Kq h h' W) (q : ∀ i, ¬ W ⟨a, i⟩) : ∃ c', Arr Z h' a c' ty ∧ c'.cls = c.cls ∧ c'.slots = c.slots := by
  obtain ⟨c', e1, e2, e3, -, e5⟩ := K.2 _ _ F.1
  obtain ⟨g1, k, g2, g3⟩ := F.2.1
  exact ⟨c', ⟨e1, ⟨by rw [e3]; exact g1, k, by rw [e2]; exact g2, g3⟩, by rw [e3]; exact F.2.2⟩, e2, Array.ext_getElem? fun i => e5 i (q i)⟩
theorem Arv.kq {k : ClassId} {z : Int32} {vs : List Value} {dv : Value} (F : Arv Z h a k ty z vs dv) (K : Kq h h' W) (q : ∀ i, ¬ W ⟨a, i⟩) : Arv Z h' a k ty z vs dv := by
  obtain ⟨c, A, r1, r2, r3, r4, r5⟩ := F
  obtain ⟨c', A', e1, e2⟩ := A.kq K q
  exact ⟨c', A', e1.trans r1, by rw [e2]; exact r2, r3, fun i hi => by rw [e2] at hi ⊢; exact r4 i hi, fun i hi => by rw [e2] at hi; exact r5 i hi⟩
theorem Ins.kq {K : String} {bo : Bool} (F : Ins Z h a K bo) (KK : Kq h h' W) : Ins Z h' a K bo := by
  obtain ⟨cell, cT, h1, h2, h3⟩ := F
  obtain ⟨c', e1, e2, e3, -⟩ := KK.2 _ _ h1
  exact ⟨c', cT, e1, h2, by rw [e2, e3]; exact h3⟩
end Facts
end Jvm.RoadKit
namespace Jvm.Wk
open Jvm Jvm.ClassFile Sem Op Lib Jvm.Free Jvm.Stand Jvm.LawKit Jvm.RoadKit
theorem Av.kq {Z : State} {h h' : Heap} {W : Loc → Prop} {a : Addr} {ty : FieldType} {z : Nat} {f : Nat → Value} (F : Av Z h a ty z f) (K : Kq h h' W) (q : ∀ i, ¬ W ⟨a, i⟩) : Av Z h' a ty z f := by
  obtain ⟨c, A, r1, r2, r3⟩ := F
  obtain ⟨c', A', e1, e2⟩ := A.kq K q
  exact ⟨c', A', by rw [e2]; exact r1, r2, fun i hi => by rw [e2]; exact r3 i hi⟩
theorem exa_av {Z : State} {h : Heap} {a b : Addr} {C : String} {k : Nat} {a0 : Array Value} {ty : FieldType} {z : Nat} {f : Nat → Value} (E : Exa Z h a C) (w : (Cond.instantiable C k).before a0 Z = true) (F : Av Z h b ty z f) : a ≠ b := by obtain ⟨c, A, -⟩ := F; exact ne_arr E w A
theorem Av.congr {Z : State} {h : Heap} {a : Addr} {ty : FieldType} {n : Nat} {f g : Nat → Value} (F : Av Z h a ty n f) (e : ∀ i, i < n → f i = g i) : Av Z h a ty n g := by
  obtain ⟨c, A, r1, r2, r3⟩ := F
  exact ⟨c, A, r1, r2, fun i hi => (e i hi) ▸ r3 i hi⟩
theorem Av.kq0 {Z : State} {h : Heap} {a : Addr} {ty : FieldType} {f g : Nat → Value} (F : Av Z h a ty 0 f) : Av Z h a ty 0 g := F.congr fun i hi => absurd hi (Nat.not_lt_zero _)
theorem Av.lt {Z : State} {h : Heap} {a : Addr} {ty : FieldType} {z : Nat} {f : Nat → Value} (F : Av Z h a ty z f) : a < h.size := by obtain ⟨c, A, -⟩ := F; exact A.lt
theorem Av.of_arv {Z : State} {h : Heap} {a : Addr} {k : ClassId} {ty : FieldType} {z : Int32} {vs : List Value} {d : Value} (F : Arv Z h a k ty z vs d) {n : Nat} (hn : z.toNatClampNeg = n) : Av Z h a ty n (fun i => vs.getD i d) := by
  obtain ⟨c, A, r1, r2, r3, r4, r5⟩ := F
  exact ⟨c, A, r2.trans hn, hn ▸ (back32 r3).2, fun i hi => r4 i (by rw [r2, hn]; exact hi)⟩
end Jvm.Wk
namespace Jvm.Wk
open Jvm Jvm.ClassFile Sem Op Lib Jvm.Free Jvm.Stand Jvm.LawKit Jvm.RoadKit
/-- places made since h, or in W -/
def Fw (h : Heap) (W : Loc → Prop) : Loc → Prop := fun y => h.size ≤ y.base ∨ W y
theorem Fw.fresh {h : Heap} {W : Loc → Prop} {a : Addr} {i : Nat} (q : h.size ≤ a) : Fw h W ⟨a, i⟩ := Or.inl q
theorem Fw.up {h0 h : Heap} {W V : Loc → Prop} (q : ∀ y, V y → Fw h0 W y) (g : h0.size ≤ h.size) : ∀ y, Fw h V y → Fw h0 W y := fun y r => r.elim (fun r => Or.inl (Nat.le_trans g r)) (q y)
theorem Fw.upN {h0 h : Heap} {W : Loc → Prop} (g : h0.size ≤ h.size) : ∀ y, Fw h noW y → Fw h0 W y := fun y r => r.elim (fun r => Or.inl (Nat.le_trans g r)) (fun r => r.elim)
theorem Fw.old {h : Heap} {W : Loc → Prop} {y : Loc} (q : W y) : Fw h W y := Or.inr q
/-- where a walk stands -/
def On (Z : State) (own nm : String) (rt : Option FieldType) (B : ByteArray) (ml : Nat) (R : Room) (h0 : Heap) (ws : Loc → Prop) (p : Program) (l : Launch) (e : Env) (s : State) (m : MethodId) (args : Array Value) (below : List Frame) (meth : Method) (c : Code) (Ts : TsT) (Li : LiT) (T : State) (h : Heap) (locs : List Loc) (cells slots : Nat) : Prop :=
  ∃ (vm0 : Vm) (k0 : Nat), Stand p l e R (s.setVm vm0) m args below meth c T locs cells slots ∧ p.tables.exec = Jvm.exec ∧ T.heap = h ∧ s.Since vm0 k0 ∧ k0 ≤ h.size ∧ Z.Warmed39 vm0 ∧ vm0.findClass own = some m.cls ∧ LS Z vm0 Ts Li ∧
    Fr Z.heap.size locs ∧ (∀ y ∈ locs, ws y) ∧ s.heap = h0 ∧ Ext Z.heap s.heap ∧ c.code = B ∧ c.maxLocals = ml ∧ meth.name = nm ∧ meth.sig.returnType = rt ∧ meth.locks = false
def Go (tb : Tables) (e : Env) (below : List Frame) (F : Outcome → State → Prop) (a : State) : Prop := ∃ s₂ o, Steps tb e below a s₂ ∧ s₂.status = .running ∧ Ended s₂ below o ∧ F o s₂
/-- how a frame ends -/
abbrev QT : Type := Option Value → Heap → TsT → LiT → Prop
def Fnl (Z : State) (R : Room) (h0 : Heap) (W : Loc → Prop) (Q : QT) (s : State) (o : Outcome) (s₂ : State) : Prop :=
  ∃ v L Ts' Li', o = .returned v ∧ Q v s₂.heap Ts' Li' ∧ LS Z s₂.vm Ts' Li' ∧ Fr Z.heap.size L ∧ (∀ y ∈ L, Fw h0 W y) ∧ ReturnedEndW s o s₂ L R.cells R.slots
/-- from wherever a walk stands so, the frame's end is reached -/
def Walk (Z : State) (own nm : String) (rt : Option FieldType) (B : ByteArray) (ml : Nat) (R : Room) (h0 : Heap) (W : Loc → Prop) (Q : QT) (ws : Loc → Prop) (Ts : TsT) (Li : LiT) (h : Heap) (cells slots pc : Nat) (Ls : Array Slot) (st : List Value) : Prop :=
  ∀ p l e s m args below meth c T locs, On Z own nm rt B ml R h0 ws p l e s m args below meth c Ts Li T h locs cells slots → Go p.tables e below (Fnl Z R h0 W Q s) (T.setTop (mkF m pc Ls st))
/-- it answers v0 and leaves all as it was -/
abbrev Pu (v0 : Option Value) (h : Heap) (Ts : TsT) (Li : LiT) : QT := fun v h' T L => v = v0 ∧ h' = h ∧ T = Ts ∧ L = Li
/-- a method's contract -/
def Con (Z : State) (y : MethodName) (B : ByteArray) (ml : Nat) (rt : Option FieldType) (R : Room) (as : List Value) (h0 : Heap) (Ts : TsT) (Li : LiT) (W : Loc → Prop) (Q : QT) : Prop :=
  ∀ l tb, MetFree l y (head1 (Cond.code y B ml rt :: tb) R) (fun a U => a = as.toArray ∧ Z.Warmed39 U.vm ∧ U.heap = h0 ∧ Ext Z.heap U.heap ∧ LS Z U.vm Ts Li) (fun _ _ _ _ _ => True) (fun _ U o U' => Fnl Z R h0 W Q U o U')
theorem Con.of {Z : State} {y : MethodName} {B : ByteArray} {ml : Nat} {rt : Option FieldType} {R : Room} {as : List Value} {h0 : Heap} {Ts : TsT} {Li : LiT} {W : Loc → Prop} {Q : QT} {ws : Loc → Prop} {Ls : Array Slot}
    (hp : plainFor y = true) (he : ∀ m, entryFrame m as.toArray ml = mkF m 0 Ls []) (k : Ext Z.heap h0 → Walk Z y.cls y.name rt B ml R h0 W Q ws Ts Li h0 0 0 0 Ls []) : Con Z y B ml rt R as h0 Ts Li W Q := by
  intro l tb
  refine MetFree.of_bodySF hp hisR ?_
  intro p e s m args below meth c s₁ Bd hml0 hP hK
  obtain ⟨rfl, hZ, hh, hE, hL⟩ := hP
  have X0 : Stand p l e R (s.setVm s.vm) m as.toArray below meth c s₁ [] 0 0 := Stand.of_body Bd
  have e0 : s₁.heap = h0 := by rw [← hh, Bd.state]; rfl
  obtain ⟨s₂, o, h1, h2, h3, h4⟩ := k (hh ▸ hE) p l e s m as.toArray below meth c s₁ [] ⟨s.vm, h0.size, X0, Bd.exec, e0, (State.WarmedH.refl s).since _, Nat.le_refl _, hZ, findClass_of_methodNamed Bd.named, hL, Fr.nil _, (fun _ q => nomatch q), hh, hE, Bd.bytes, hml0, (name_of_methodNamed Bd.named Bd.method).1, Bd.returns, Bd.notSynchronized⟩
  exact ⟨s₂, o, castTop (he m) h1, h2, h3, h4⟩
section W
variable {Z : State} {own nm : String} {rt : Option FieldType} {B : ByteArray} {ml : Nat} {R : Room} {h0 : Heap} {W : Loc → Prop} {Q : QT} {ws : Loc → Prop} {Ts : TsT} {Li : LiT} {h : Heap} {cells slots pc pc' : Nat} {Ls Ls' : Array Slot} {st st' : List Value} {a0 : Array Value}
theorem Walk.lift (f : ∀ (p : Program) (e : Env) (below : List Frame) (T : State) (m : MethodId) (c : Code) (target : State), At T m c below → p.tables.exec = Jvm.exec → c.code = B → Steps p.tables e below (T.setTop (mkF m pc' Ls' st')) target → Steps p.tables e below (T.setTop (mkF m pc Ls st)) target)
    (k : Walk Z own nm rt B ml R h0 W Q ws Ts Li h cells slots pc' Ls' st') : Walk Z own nm rt B ml R h0 W Q ws Ts Li h cells slots pc Ls st := by
  intro p l e s m args below meth c T locs ho
  obtain ⟨s₂, o, h1, r⟩ := k p l e s m args below meth c T locs ho
  obtain ⟨vm0, k0, X, hx, -, -, -, -, -, -, -, -, -, -, hc, -⟩ := ho
  exact ⟨s₂, o, f p e below T m c s₂ X.here hx hc h1, r⟩
theorem Walk.ws_mono {ws' : Loc → Prop} (q : ∀ y, ws y → ws' y) (k : Walk Z own nm rt B ml R h0 W Q ws' Ts Li h cells slots pc Ls st) : Walk Z own nm rt B ml R h0 W Q ws Ts Li h cells slots pc Ls st := by
  intro p l e s m args below meth c T locs ho
  obtain ⟨vm0, k0, X, hx, a1, a2, a3, a4, a5, a6, a7, a8, a9⟩ := ho
  exact k p l e s m args below meth c T locs ⟨vm0, k0, X, hx, a1, a2, a3, a4, a5, a6, a7, fun y hy => q y (a8 y hy), a9⟩
/-- more may have been made -/
theorem Walk.more {cells' slots' : Nat} (hc : cells ≤ cells') (hs : slots ≤ slots') (k : Walk Z own nm rt B ml R h0 W Q ws Ts Li h cells' slots' pc Ls st) : Walk Z own nm rt B ml R h0 W Q ws Ts Li h cells slots pc Ls st := by
  intro p l e s m args below meth c T locs ho
  obtain ⟨vm0, k0, X, r⟩ := ho
  exact k p l e s m args below meth c T locs ⟨vm0, k0, X.more hc hs, r⟩
/-- the law's start stands yet -/
theorem Walk.old (k : Ext Z.heap h → Walk Z own nm rt B ml R h0 W Q ws Ts Li h cells slots pc Ls st) : Walk Z own nm rt B ml R h0 W Q ws Ts Li h cells slots pc Ls st := by
  intro p l e s m args below meth c T locs ho
  obtain ⟨vm0, k0, X, hx, eT, a2, a3, a4, a5, a6, N, a8, a9, E, r⟩ := id ho
  refine k ⟨?_, fun b cl hcl => ?_⟩ p l e s m args below meth c T locs ho
  · have q : s.heap.size ≤ T.heap.size := X.same.2.1
    rw [← eT]; exact Nat.le_trans E.1 q
  · obtain ⟨c', h1, h2, -, h4⟩ := X.same.2.2.2.2.2 b cl (E.2 b cl hcl)
    have hb := (Array.getElem?_eq_some_iff.mp hcl).1
    have hsl : c'.slots = cl.slots := Array.ext_getElem? fun i => h4 i fun hm => absurd (N _ hm) (Nat.not_le.mpr hb)
    have hcc : c' = cl := by rw [h2, hsl]
    rw [← eT, ← hcc]; exact h1
theorem Walk.aloadN {k : Fin 4} {v : Value} (hd : decode B pc = .ok (.aload_n k, 1)) (hl : Ls[k.val]? = some (.val v)) (hv : v.isRef = true) (k' : Walk Z own nm rt B ml R h0 W Q ws Ts Li h cells slots pc' Ls (v :: st)) (hp : pc + 1 = pc' := by rfl) : Walk Z own nm rt B ml R h0 W Q ws Ts Li h cells slots pc Ls (st) :=
  Walk.lift (fun _ _ _ _ _ _ _ h hx hc r => XS.aloadN h hx rfl (hb hc hd) hl hv (by subst hp; exact r)) k'
theorem Walk.aload {k : Nat} {v : Value} (hd : decode B pc = .ok (.aload k, 2)) (hl : Ls[k]? = some (.val v)) (hv : v.isRef = true) (k' : Walk Z own nm rt B ml R h0 W Q ws Ts Li h cells slots pc' Ls (v :: st)) (hp : pc + 2 = pc' := by rfl) : Walk Z own nm rt B ml R h0 W Q ws Ts Li h cells slots pc Ls (st) :=
  Walk.lift (fun _ _ _ _ _ _ _ h hx hc r => XS.aload h hx rfl (hb hc hd) hl hv (by subst hp; exact r)) k'
theorem Walk.iloadN {k : Fin 4} {v : Int32} (hd : decode B pc = .ok (.iload_n k, 1)) (hl : Ls[k.val]? = some (.val (.int v))) (k' : Walk Z own nm rt B ml R h0 W Q ws Ts Li h cells slots pc' Ls (.int v :: st)) (hp : pc + 1 = pc' := by rfl) : Walk Z own nm rt B ml R h0 W Q ws Ts Li h cells slots pc Ls (st) :=
  Walk.lift (fun _ _ _ _ _ _ _ h hx hc r => XS.iloadN h hx rfl (hb hc hd) hl (by subst hp; exact r)) k'
theorem Walk.iload {k : Nat} {v : Int32} (hd : decode B pc = .ok (.iload k, 2)) (hl : Ls[k]? = some (.val (.int v))) (k' : Walk Z own nm rt B ml R h0 W Q ws Ts Li h cells slots pc' Ls (.int v :: st)) (hp : pc + 2 = pc' := by rfl) : Walk Z own nm rt B ml R h0 W Q ws Ts Li h cells slots pc Ls (st) :=
  Walk.lift (fun _ _ _ _ _ _ _ h hx hc r => XS.iload h hx rfl (hb hc hd) hl (by subst hp; exact r)) k'
theorem Walk.lloadN {k : Fin 4} {v : Int64} (hd : decode B pc = .ok (.lload_n k, 1)) (hl : Ls[k.val]? = some (.val (.long v))) (k' : Walk Z own nm rt B ml R h0 W Q ws Ts Li h cells slots pc' Ls (.long v :: st)) (hp : pc + 1 = pc' := by rfl) : Walk Z own nm rt B ml R h0 W Q ws Ts Li h cells slots pc Ls (st) :=
  Walk.lift (fun _ _ _ _ _ _ _ h hx hc r => XT.lloadN h hx rfl (hb hc hd) hl (by subst hp; exact r)) k'
theorem Walk.lload {k : Nat} {v : Int64} (hd : decode B pc = .ok (.lload k, 2)) (hl : Ls[k]? = some (.val (.long v))) (k' : Walk Z own nm rt B ml R h0 W Q ws Ts Li h cells slots pc' Ls (.long v :: st)) (hp : pc + 2 = pc' := by rfl) : Walk Z own nm rt B ml R h0 W Q ws Ts Li h cells slots pc Ls (st) :=
  Walk.lift (fun _ _ _ _ _ _ _ h hx hc r => XT.lload h hx rfl (hb hc hd) hl (by subst hp; exact r)) k'
theorem Walk.iconst {i : Int} (v : Int32) (hd : decode B pc = .ok (.iconst i, 1)) (hv : Int32.ofInt i = v) (k' : Walk Z own nm rt B ml R h0 W Q ws Ts Li h cells slots pc' Ls (.int v :: st)) (hp : pc + 1 = pc' := by rfl) : Walk Z own nm rt B ml R h0 W Q ws Ts Li h cells slots pc Ls (st) :=
  Walk.lift (fun _ _ _ _ _ _ _ h hx hc r => XT.iconstV h hx rfl v (hb hc hd) hv (by subst hp; exact r)) k'
theorem Walk.bipush {i : Int} (v : Int32) (hd : decode B pc = .ok (.bipush i, 2)) (hv : (Int8.ofInt i).toInt32 = v) (k' : Walk Z own nm rt B ml R h0 W Q ws Ts Li h cells slots pc' Ls (.int v :: st)) (hp : pc + 2 = pc' := by rfl) : Walk Z own nm rt B ml R h0 W Q ws Ts Li h cells slots pc Ls (st) :=
  Walk.lift (fun _ _ _ _ _ _ _ h hx hc r => XT.bipushV h hx rfl v (hb hc hd) hv (by subst hp; exact r)) k'
theorem Walk.sipush {i : Int} (v : Int32) (hd : decode B pc = .ok (.sipush i, 3)) (hv : (Int16.ofInt i).toInt32 = v) (k' : Walk Z own nm rt B ml R h0 W Q ws Ts Li h cells slots pc' Ls (.int v :: st)) (hp : pc + 3 = pc' := by rfl) : Walk Z own nm rt B ml R h0 W Q ws Ts Li h cells slots pc Ls (st) :=
  Walk.lift (fun _ _ _ _ _ _ _ h hx hc r => XT.sipushV h hx rfl v (hb hc hd) hv (by subst hp; exact r)) k'
theorem Walk.lconst {k : Fin 2} (v : Int64) (hd : decode B pc = .ok (.lconst k, 1)) (hv : Int64.ofNat k = v) (k' : Walk Z own nm rt B ml R h0 W Q ws Ts Li h cells slots pc' Ls (.long v :: st)) (hp : pc + 1 = pc' := by rfl) : Walk Z own nm rt B ml R h0 W Q ws Ts Li h cells slots pc Ls (st) :=
  Walk.lift (fun _ _ _ _ _ _ _ h hx hc r => XT.lconstV h hx rfl v (hb hc hd) hv (by subst hp; exact r)) k'
theorem Walk.aconstNull (hd : decode B pc = .ok (.aconst_null, 1)) (k' : Walk Z own nm rt B ml R h0 W Q ws Ts Li h cells slots pc' Ls (.null :: st)) (hp : pc + 1 = pc' := by rfl) : Walk Z own nm rt B ml R h0 W Q ws Ts Li h cells slots pc Ls (st) :=
  Walk.lift (fun _ _ _ _ _ _ _ h hx hc r => XS.aconstNull h hx rfl (hb hc hd) (by subst hp; exact r)) k'
theorem Walk.iadd {x y : Int32} (hd : decode B pc = .ok (.iadd, 1)) (k' : Walk Z own nm rt B ml R h0 W Q ws Ts Li h cells slots pc' Ls (.int (x + y) :: st)) (hp : pc + 1 = pc' := by rfl) : Walk Z own nm rt B ml R h0 W Q ws Ts Li h cells slots pc Ls (.int y :: .int x :: st) :=
  Walk.lift (fun _ _ _ _ _ _ _ h hx hc r => XS.iadd h hx rfl (hb hc hd) rfl (by subst hp; exact r)) k'
theorem Walk.isub {x y : Int32} (hd : decode B pc = .ok (.isub, 1)) (k' : Walk Z own nm rt B ml R h0 W Q ws Ts Li h cells slots pc' Ls (.int (x - y) :: st)) (hp : pc + 1 = pc' := by rfl) : Walk Z own nm rt B ml R h0 W Q ws Ts Li h cells slots pc Ls (.int y :: .int x :: st) :=
  Walk.lift (fun _ _ _ _ _ _ _ h hx hc r => XS.isub h hx rfl (hb hc hd) rfl (by subst hp; exact r)) k'
theorem Walk.iand {x y : Int32} (hd : decode B pc = .ok (.iand, 1)) (k' : Walk Z own nm rt B ml R h0 W Q ws Ts Li h cells slots pc' Ls (.int (x &&& y) :: st)) (hp : pc + 1 = pc' := by rfl) : Walk Z own nm rt B ml R h0 W Q ws Ts Li h cells slots pc Ls (.int y :: .int x :: st) :=
  Walk.lift (fun _ _ _ _ _ _ _ h hx hc r => XS.iand h hx rfl (hb hc hd) rfl (by subst hp; exact r)) k'
theorem Walk.imul {x y : Int32} (hd : decode B pc = .ok (.imul, 1)) (k' : Walk Z own nm rt B ml R h0 W Q ws Ts Li h cells slots pc' Ls (.int (x * y) :: st)) (hp : pc + 1 = pc' := by rfl) : Walk Z own nm rt B ml R h0 W Q ws Ts Li h cells slots pc Ls (.int y :: .int x :: st) :=
  Walk.lift (fun _ _ _ _ _ _ _ h hx hc r => XS.imul h hx rfl (hb hc hd) rfl (by subst hp; exact r)) k'
theorem Walk.ixor {x y : Int32} (hd : decode B pc = .ok (.ixor, 1)) (k' : Walk Z own nm rt B ml R h0 W Q ws Ts Li h cells slots pc' Ls (.int (x ^^^ y) :: st)) (hp : pc + 1 = pc' := by rfl) : Walk Z own nm rt B ml R h0 W Q ws Ts Li h cells slots pc Ls (.int y :: .int x :: st) :=
  Walk.lift (fun _ _ _ _ _ _ _ h hx hc r => XT.ixor h hx rfl (hb hc hd) rfl (by subst hp; exact r)) k'
theorem Walk.ior {x y : Int32} (hd : decode B pc = .ok (.ior, 1)) (k' : Walk Z own nm rt B ml R h0 W Q ws Ts Li h cells slots pc' Ls (.int (x ||| y) :: st)) (hp : pc + 1 = pc' := by rfl) : Walk Z own nm rt B ml R h0 W Q ws Ts Li h cells slots pc Ls (.int y :: .int x :: st) :=
  Walk.lift (fun _ _ _ _ _ _ _ h hx hc r => XT.ior h hx rfl (hb hc hd) rfl (by subst hp; exact r)) k'
theorem Walk.ishl {x y : Int32} (hd : decode B pc = .ok (.ishl, 1)) (k' : Walk Z own nm rt B ml R h0 W Q ws Ts Li h cells slots pc' Ls (.int (x <<< (y &&& 31)) :: st)) (hp : pc + 1 = pc' := by rfl) : Walk Z own nm rt B ml R h0 W Q ws Ts Li h cells slots pc Ls (.int y :: .int x :: st) :=
  Walk.lift (fun _ _ _ _ _ _ _ h hx hc r => XT.ishl h hx rfl (hb hc hd) rfl (by subst hp; exact r)) k'
theorem Walk.ishr {x y : Int32} (hd : decode B pc = .ok (.ishr, 1)) (k' : Walk Z own nm rt B ml R h0 W Q ws Ts Li h cells slots pc' Ls (.int (x >>> (y &&& 31)) :: st)) (hp : pc + 1 = pc' := by rfl) : Walk Z own nm rt B ml R h0 W Q ws Ts Li h cells slots pc Ls (.int y :: .int x :: st) :=
  Walk.lift (fun _ _ _ _ _ _ _ h hx hc r => XT.ishr h hx rfl (hb hc hd) rfl (by subst hp; exact r)) k'
theorem Walk.iushr {x y : Int32} (hd : decode B pc = .ok (.iushr, 1)) (k' : Walk Z own nm rt B ml R h0 W Q ws Ts Li h cells slots pc' Ls (.int (XT.ushr x y) :: st)) (hp : pc + 1 = pc' := by rfl) : Walk Z own nm rt B ml R h0 W Q ws Ts Li h cells slots pc Ls (.int y :: .int x :: st) :=
  Walk.lift (fun _ _ _ _ _ _ _ h hx hc r => XT.iushr h hx rfl (hb hc hd) rfl (by subst hp; exact r)) k'
theorem Walk.idiv {x y : Int32} (hd : decode B pc = .ok (.idiv, 1)) (hy : y ≠ 0) (k' : Walk Z own nm rt B ml R h0 W Q ws Ts Li h cells slots pc' Ls (.int (x / y) :: st)) (hp : pc + 1 = pc' := by rfl) : Walk Z own nm rt B ml R h0 W Q ws Ts Li h cells slots pc Ls (.int y :: .int x :: st) :=
  Walk.lift (fun _ _ _ _ _ _ _ h hx hc r => XS.idiv h hx rfl (hb hc hd) rfl hy (by subst hp; exact r)) k'
theorem Walk.irem {x y : Int32} (hd : decode B pc = .ok (.irem, 1)) (hy : y ≠ 0) (k' : Walk Z own nm rt B ml R h0 W Q ws Ts Li h cells slots pc' Ls (.int (x - (x / y) * y) :: st)) (hp : pc + 1 = pc' := by rfl) : Walk Z own nm rt B ml R h0 W Q ws Ts Li h cells slots pc Ls (.int y :: .int x :: st) :=
  Walk.lift (fun _ _ _ _ _ _ _ h hx hc r => XS.irem h hx rfl (hb hc hd) rfl hy (by subst hp; exact r)) k'
theorem Walk.ineg {x : Int32} (hd : decode B pc = .ok (.ineg, 1)) (k' : Walk Z own nm rt B ml R h0 W Q ws Ts Li h cells slots pc' Ls (.int (-x) :: st)) (hp : pc + 1 = pc' := by rfl) : Walk Z own nm rt B ml R h0 W Q ws Ts Li h cells slots pc Ls (.int x :: st) :=
  Walk.lift (fun _ _ _ _ _ _ _ h hx hc r => XS.ineg h hx rfl (hb hc hd) rfl (by subst hp; exact r)) k'
theorem Walk.ladd {x y : Int64} (hd : decode B pc = .ok (.ladd, 1)) (k' : Walk Z own nm rt B ml R h0 W Q ws Ts Li h cells slots pc' Ls (.long (x + y) :: st)) (hp : pc + 1 = pc' := by rfl) : Walk Z own nm rt B ml R h0 W Q ws Ts Li h cells slots pc Ls (.long y :: .long x :: st) :=
  Walk.lift (fun _ _ _ _ _ _ _ h hx hc r => XT.ladd h hx rfl (hb hc hd) rfl (by subst hp; exact r)) k'
theorem Walk.lsub {x y : Int64} (hd : decode B pc = .ok (.lsub, 1)) (k' : Walk Z own nm rt B ml R h0 W Q ws Ts Li h cells slots pc' Ls (.long (x - y) :: st)) (hp : pc + 1 = pc' := by rfl) : Walk Z own nm rt B ml R h0 W Q ws Ts Li h cells slots pc Ls (.long y :: .long x :: st) :=
  Walk.lift (fun _ _ _ _ _ _ _ h hx hc r => XT.lsub h hx rfl (hb hc hd) rfl (by subst hp; exact r)) k'
theorem Walk.lmul {x y : Int64} (hd : decode B pc = .ok (.lmul, 1)) (k' : Walk Z own nm rt B ml R h0 W Q ws Ts Li h cells slots pc' Ls (.long (x * y) :: st)) (hp : pc + 1 = pc' := by rfl) : Walk Z own nm rt B ml R h0 W Q ws Ts Li h cells slots pc Ls (.long y :: .long x :: st) :=
  Walk.lift (fun _ _ _ _ _ _ _ h hx hc r => XT.lmul h hx rfl (hb hc hd) rfl (by subst hp; exact r)) k'
theorem Walk.land {x y : Int64} (hd : decode B pc = .ok (.land, 1)) (k' : Walk Z own nm rt B ml R h0 W Q ws Ts Li h cells slots pc' Ls (.long (x &&& y) :: st)) (hp : pc + 1 = pc' := by rfl) : Walk Z own nm rt B ml R h0 W Q ws Ts Li h cells slots pc Ls (.long y :: .long x :: st) :=
  Walk.lift (fun _ _ _ _ _ _ _ h hx hc r => XT.land h hx rfl (hb hc hd) rfl (by subst hp; exact r)) k'
theorem Walk.lor {x y : Int64} (hd : decode B pc = .ok (.lor, 1)) (k' : Walk Z own nm rt B ml R h0 W Q ws Ts Li h cells slots pc' Ls (.long (x ||| y) :: st)) (hp : pc + 1 = pc' := by rfl) : Walk Z own nm rt B ml R h0 W Q ws Ts Li h cells slots pc Ls (.long y :: .long x :: st) :=
  Walk.lift (fun _ _ _ _ _ _ _ h hx hc r => XT.lor h hx rfl (hb hc hd) rfl (by subst hp; exact r)) k'
theorem Walk.lxor {x y : Int64} (hd : decode B pc = .ok (.lxor, 1)) (k' : Walk Z own nm rt B ml R h0 W Q ws Ts Li h cells slots pc' Ls (.long (x ^^^ y) :: st)) (hp : pc + 1 = pc' := by rfl) : Walk Z own nm rt B ml R h0 W Q ws Ts Li h cells slots pc Ls (.long y :: .long x :: st) :=
  Walk.lift (fun _ _ _ _ _ _ _ h hx hc r => XT.lxor h hx rfl (hb hc hd) rfl (by subst hp; exact r)) k'
theorem Walk.ldiv {x y : Int64} (hd : decode B pc = .ok (.ldiv, 1)) (hy : y ≠ 0) (k' : Walk Z own nm rt B ml R h0 W Q ws Ts Li h cells slots pc' Ls (.long (x / y) :: st)) (hp : pc + 1 = pc' := by rfl) : Walk Z own nm rt B ml R h0 W Q ws Ts Li h cells slots pc Ls (.long y :: .long x :: st) :=
  Walk.lift (fun _ _ _ _ _ _ _ h hx hc r => XT.ldiv h hx rfl (hb hc hd) rfl hy (by subst hp; exact r)) k'
theorem Walk.lrem {x y : Int64} (hd : decode B pc = .ok (.lrem, 1)) (hy : y ≠ 0) (k' : Walk Z own nm rt B ml R h0 W Q ws Ts Li h cells slots pc' Ls (.long (x - (x / y) * y) :: st)) (hp : pc + 1 = pc' := by rfl) : Walk Z own nm rt B ml R h0 W Q ws Ts Li h cells slots pc Ls (.long y :: .long x :: st) :=
  Walk.lift (fun _ _ _ _ _ _ _ h hx hc r => XT.lrem h hx rfl (hb hc hd) rfl hy (by subst hp; exact r)) k'
theorem Walk.lshl {x : Int64} {y : Int32} (hd : decode B pc = .ok (.lshl, 1)) (k' : Walk Z own nm rt B ml R h0 W Q ws Ts Li h cells slots pc' Ls (.long (x <<< (y.toInt64 &&& 63)) :: st)) (hp : pc + 1 = pc' := by rfl) : Walk Z own nm rt B ml R h0 W Q ws Ts Li h cells slots pc Ls (.int y :: .long x :: st) :=
  Walk.lift (fun _ _ _ _ _ _ _ h hx hc r => XT.lshl h hx rfl (hb hc hd) rfl (by subst hp; exact r)) k'
theorem Walk.lshr {x : Int64} {y : Int32} (hd : decode B pc = .ok (.lshr, 1)) (k' : Walk Z own nm rt B ml R h0 W Q ws Ts Li h cells slots pc' Ls (.long (x >>> (y.toInt64 &&& 63)) :: st)) (hp : pc + 1 = pc' := by rfl) : Walk Z own nm rt B ml R h0 W Q ws Ts Li h cells slots pc Ls (.int y :: .long x :: st) :=
  Walk.lift (fun _ _ _ _ _ _ _ h hx hc r => XT.lshr h hx rfl (hb hc hd) rfl (by subst hp; exact r)) k'
theorem Walk.lushr {x : Int64} {y : Int32} (hd : decode B pc = .ok (.lushr, 1)) (k' : Walk Z own nm rt B ml R h0 W Q ws Ts Li h cells slots pc' Ls (.long (XT.ushrL x y) :: st)) (hp : pc + 1 = pc' := by rfl) : Walk Z own nm rt B ml R h0 W Q ws Ts Li h cells slots pc Ls (.int y :: .long x :: st) :=
  Walk.lift (fun _ _ _ _ _ _ _ h hx hc r => XT.lushr h hx rfl (hb hc hd) rfl (by subst hp; exact r)) k'
theorem Walk.lneg {x : Int64} (hd : decode B pc = .ok (.lneg, 1)) (k' : Walk Z own nm rt B ml R h0 W Q ws Ts Li h cells slots pc' Ls (.long (-x) :: st)) (hp : pc + 1 = pc' := by rfl) : Walk Z own nm rt B ml R h0 W Q ws Ts Li h cells slots pc Ls (.long x :: st) :=
  Walk.lift (fun _ _ _ _ _ _ _ h hx hc r => XT.lneg h hx rfl (hb hc hd) rfl (by subst hp; exact r)) k'
theorem Walk.lcmp {x y : Int64} (hd : decode B pc = .ok (.lcmp, 1)) (k' : Walk Z own nm rt B ml R h0 W Q ws Ts Li h cells slots pc' Ls (.int (XT.cmpL x y) :: st)) (hp : pc + 1 = pc' := by rfl) : Walk Z own nm rt B ml R h0 W Q ws Ts Li h cells slots pc Ls (.long y :: .long x :: st) :=
  Walk.lift (fun _ _ _ _ _ _ _ h hx hc r => XT.lcmp h hx rfl (hb hc hd) rfl (by subst hp; exact r)) k'
theorem Walk.i2l {x : Int32} (hd : decode B pc = .ok (.i2l, 1)) (k' : Walk Z own nm rt B ml R h0 W Q ws Ts Li h cells slots pc' Ls (.long x.toInt64 :: st)) (hp : pc + 1 = pc' := by rfl) : Walk Z own nm rt B ml R h0 W Q ws Ts Li h cells slots pc Ls (.int x :: st) :=
  Walk.lift (fun _ _ _ _ _ _ _ h hx hc r => XT.i2l h hx rfl (hb hc hd) rfl (by subst hp; exact r)) k'
theorem Walk.l2i {x : Int64} (hd : decode B pc = .ok (.l2i, 1)) (k' : Walk Z own nm rt B ml R h0 W Q ws Ts Li h cells slots pc' Ls (.int x.toInt32 :: st)) (hp : pc + 1 = pc' := by rfl) : Walk Z own nm rt B ml R h0 W Q ws Ts Li h cells slots pc Ls (.long x :: st) :=
  Walk.lift (fun _ _ _ _ _ _ _ h hx hc r => XT.l2i h hx rfl (hb hc hd) rfl (by subst hp; exact r)) k'
theorem Walk.i2b {x : Int32} (hd : decode B pc = .ok (.i2b, 1)) (k' : Walk Z own nm rt B ml R h0 W Q ws Ts Li h cells slots pc' Ls (.int x.toInt8.toInt32 :: st)) (hp : pc + 1 = pc' := by rfl) : Walk Z own nm rt B ml R h0 W Q ws Ts Li h cells slots pc Ls (.int x :: st) :=
  Walk.lift (fun _ _ _ _ _ _ _ h hx hc r => XT.i2b h hx rfl (hb hc hd) rfl (by subst hp; exact r)) k'
theorem Walk.i2c {x : Int32} (hd : decode B pc = .ok (.i2c, 1)) (k' : Walk Z own nm rt B ml R h0 W Q ws Ts Li h cells slots pc' Ls (.int x.toUInt32.toUInt16.toUInt32.toInt32 :: st)) (hp : pc + 1 = pc' := by rfl) : Walk Z own nm rt B ml R h0 W Q ws Ts Li h cells slots pc Ls (.int x :: st) :=
  Walk.lift (fun _ _ _ _ _ _ _ h hx hc r => XT.i2c h hx rfl (hb hc hd) rfl (by subst hp; exact r)) k'
theorem Walk.i2s {x : Int32} (hd : decode B pc = .ok (.i2s, 1)) (k' : Walk Z own nm rt B ml R h0 W Q ws Ts Li h cells slots pc' Ls (.int x.toInt16.toInt32 :: st)) (hp : pc + 1 = pc' := by rfl) : Walk Z own nm rt B ml R h0 W Q ws Ts Li h cells slots pc Ls (.int x :: st) :=
  Walk.lift (fun _ _ _ _ _ _ _ h hx hc r => XT.i2s h hx rfl (hb hc hd) rfl (by subst hp; exact r)) k'
theorem Walk.dup {x : Value} (hd : decode B pc = .ok (.dup, 1)) (hc1 : x.category = 1) (k' : Walk Z own nm rt B ml R h0 W Q ws Ts Li h cells slots pc' Ls (x :: x :: st)) (hp : pc + 1 = pc' := by rfl) : Walk Z own nm rt B ml R h0 W Q ws Ts Li h cells slots pc Ls (x :: st) :=
  Walk.lift (fun _ _ _ _ _ _ _ h hx hc r => XS.dup h hx rfl (hb hc hd) rfl hc1 (by subst hp; exact r)) k'
theorem Walk.pop {x : Value} (hd : decode B pc = .ok (.pop, 1)) (hc1 : x.category = 1) (k' : Walk Z own nm rt B ml R h0 W Q ws Ts Li h cells slots pc' Ls (st)) (hp : pc + 1 = pc' := by rfl) : Walk Z own nm rt B ml R h0 W Q ws Ts Li h cells slots pc Ls (x :: st) :=
  Walk.lift (fun _ _ _ _ _ _ _ h hx hc r => XT.pop h hx rfl (hb hc hd) rfl hc1 (by subst hp; exact r)) k'
theorem Walk.dupX1 {x y : Value} (hd : decode B pc = .ok (.dup_x1, 1)) (hc1 : x.category = 1) (hc2 : y.category = 1) (k' : Walk Z own nm rt B ml R h0 W Q ws Ts Li h cells slots pc' Ls (x :: y :: x :: st)) (hp : pc + 1 = pc' := by rfl) : Walk Z own nm rt B ml R h0 W Q ws Ts Li h cells slots pc Ls (x :: y :: st) :=
  Walk.lift (fun _ _ _ _ _ _ _ h hx hc r => XT.dupX1 h hx rfl (hb hc hd) rfl hc1 hc2 (by subst hp; exact r)) k'
theorem Walk.dup2 {x y : Value} (hd : decode B pc = .ok (.dup2, 1)) (hc1 : x.category = 1) (hc2 : y.category = 1) (k' : Walk Z own nm rt B ml R h0 W Q ws Ts Li h cells slots pc' Ls (x :: y :: x :: y :: st)) (hp : pc + 1 = pc' := by rfl) : Walk Z own nm rt B ml R h0 W Q ws Ts Li h cells slots pc Ls (x :: y :: st) :=
  Walk.lift (fun _ _ _ _ _ _ _ h hx hc r => XT.dup2 h hx rfl (hb hc hd) rfl hc1 hc2 (by subst hp; exact r)) k'
theorem Walk.dup2L {x : Int64} (hd : decode B pc = .ok (.dup2, 1)) (k' : Walk Z own nm rt B ml R h0 W Q ws Ts Li h cells slots pc' Ls (.long x :: .long x :: st)) (hp : pc + 1 = pc' := by rfl) : Walk Z own nm rt B ml R h0 W Q ws Ts Li h cells slots pc Ls (.long x :: st) :=
  Walk.lift (fun _ _ _ _ _ _ _ h hx hc r => XT.dup2L h hx rfl (hb hc hd) rfl (by subst hp; exact r)) k'
theorem Walk.istoreN {k : Fin 4} {x : Int32} (hd : decode B pc = .ok (.istore_n k, 1)) (hl : storeLocals Ls k.val (.int x) = some Ls') (k' : Walk Z own nm rt B ml R h0 W Q ws Ts Li h cells slots pc' Ls' (st)) (hp : pc + 1 = pc' := by rfl) : Walk Z own nm rt B ml R h0 W Q ws Ts Li h cells slots pc Ls (.int x :: st) :=
  Walk.lift (fun _ _ _ _ _ _ _ h hx hc r => XS.istoreN h hx rfl (hb hc hd) rfl hl (by subst hp; exact r)) k'
theorem Walk.istore {k : Nat} {x : Int32} (hd : decode B pc = .ok (.istore k, 2)) (hl : storeLocals Ls k (.int x) = some Ls') (k' : Walk Z own nm rt B ml R h0 W Q ws Ts Li h cells slots pc' Ls' (st)) (hp : pc + 2 = pc' := by rfl) : Walk Z own nm rt B ml R h0 W Q ws Ts Li h cells slots pc Ls (.int x :: st) :=
  Walk.lift (fun _ _ _ _ _ _ _ h hx hc r => XS.istore h hx rfl (hb hc hd) rfl hl (by subst hp; exact r)) k'
theorem Walk.lstoreN {k : Fin 4} {x : Int64} (hd : decode B pc = .ok (.lstore_n k, 1)) (hl : storeLocals Ls k.val (.long x) = some Ls') (k' : Walk Z own nm rt B ml R h0 W Q ws Ts Li h cells slots pc' Ls' (st)) (hp : pc + 1 = pc' := by rfl) : Walk Z own nm rt B ml R h0 W Q ws Ts Li h cells slots pc Ls (.long x :: st) :=
  Walk.lift (fun _ _ _ _ _ _ _ h hx hc r => XT.lstoreN h hx rfl (hb hc hd) rfl hl (by subst hp; exact r)) k'
theorem Walk.lstore {k : Nat} {x : Int64} (hd : decode B pc = .ok (.lstore k, 2)) (hl : storeLocals Ls k (.long x) = some Ls') (k' : Walk Z own nm rt B ml R h0 W Q ws Ts Li h cells slots pc' Ls' (st)) (hp : pc + 2 = pc' := by rfl) : Walk Z own nm rt B ml R h0 W Q ws Ts Li h cells slots pc Ls (.long x :: st) :=
  Walk.lift (fun _ _ _ _ _ _ _ h hx hc r => XT.lstore h hx rfl (hb hc hd) rfl hl (by subst hp; exact r)) k'
theorem Walk.astoreN {k : Fin 4} {x : Value} (hd : decode B pc = .ok (.astore_n k, 1)) (hv : x.isRef = true) (hl : storeLocals Ls k.val x = some Ls') (k' : Walk Z own nm rt B ml R h0 W Q ws Ts Li h cells slots pc' Ls' (st)) (hp : pc + 1 = pc' := by rfl) : Walk Z own nm rt B ml R h0 W Q ws Ts Li h cells slots pc Ls (x :: st) :=
  Walk.lift (fun _ _ _ _ _ _ _ h hx hc r => XS.astoreN h hx rfl (hb hc hd) rfl hv hl (by subst hp; exact r)) k'
theorem Walk.astore {k : Nat} {x : Value} (hd : decode B pc = .ok (.astore k, 2)) (hv : x.isRef = true) (hl : storeLocals Ls k x = some Ls') (k' : Walk Z own nm rt B ml R h0 W Q ws Ts Li h cells slots pc' Ls' (st)) (hp : pc + 2 = pc' := by rfl) : Walk Z own nm rt B ml R h0 W Q ws Ts Li h cells slots pc Ls (x :: st) :=
  Walk.lift (fun _ _ _ _ _ _ _ h hx hc r => XS.astore h hx rfl (hb hc hd) rfl hv hl (by subst hp; exact r)) k'
theorem Walk.iinc {k : Nat} {cst : Int} {x : Int32} (v : Int32) (hd : decode B pc = .ok (.iinc k cst, 3)) (hv : Int32.ofInt cst = v) (hl0 : Ls[k]? = some (.val (.int x))) (hl : storeLocals Ls k (.int (x + v)) = some Ls') (k' : Walk Z own nm rt B ml R h0 W Q ws Ts Li h cells slots pc' Ls' (st)) (hp : pc + 3 = pc' := by rfl) : Walk Z own nm rt B ml R h0 W Q ws Ts Li h cells slots pc Ls (st) :=
  Walk.lift (fun _ _ _ _ _ _ _ h hx hc r => XT.iincV h hx rfl v (hb hc hd) hv hl0 hl (by subst hp; exact r)) k'
theorem Walk.goto {off : Int} (hd : decode B pc = .ok (.goto off, 3)) (k' : Walk Z own nm rt B ml R h0 W Q ws Ts Li h cells slots pc' Ls (st)) (ho : 0 ≤ (pc : Int) + off := by decide) (hp : ((pc : Int) + off).toNat = pc' := by rfl) : Walk Z own nm rt B ml R h0 W Q ws Ts Li h cells slots pc Ls (st) :=
  Walk.lift (fun _ _ _ _ _ _ _ h hx hc r => XS.goto h hx rfl (pc0 := pc) (pc' := pc') rfl (hb hc hd) ho hp r) k'
theorem Walk.ifYes {off : Int} {cd : ClassFile.Cond} {x : Int32} (hd : decode B pc = .ok (.ifCond cd off, 3)) (hc1 : ifCond.holds cd x = true) (k' : Walk Z own nm rt B ml R h0 W Q ws Ts Li h cells slots pc' Ls (st)) (ho : 0 ≤ (pc : Int) + off := by decide) (hp : ((pc : Int) + off).toNat = pc' := by rfl) : Walk Z own nm rt B ml R h0 W Q ws Ts Li h cells slots pc Ls (.int x :: st) :=
  Walk.lift (fun _ _ _ _ _ _ _ h hx hc r => XS.ifYes h hx rfl (pc0 := pc) (pc' := pc') rfl (hb hc hd) rfl hc1 ho hp r) k'
theorem Walk.ifNo {cd : ClassFile.Cond} {off : Int} {x : Int32} (hd : decode B pc = .ok (.ifCond cd off, 3)) (hc1 : ifCond.holds cd x = false) (k' : Walk Z own nm rt B ml R h0 W Q ws Ts Li h cells slots pc' Ls (st)) (hp : pc + 3 = pc' := by rfl) : Walk Z own nm rt B ml R h0 W Q ws Ts Li h cells slots pc Ls (.int x :: st) :=
  Walk.lift (fun _ _ _ _ _ _ _ h hx hc r => XS.ifNo h hx rfl (hb hc hd) rfl hc1 (by subst hp; exact r)) k'
theorem Walk.icYes {off : Int} {cd : ClassFile.Cond} {x y : Int32} (hd : decode B pc = .ok (.if_icmp cd off, 3)) (hc1 : if_icmp.holds cd x y = true) (k' : Walk Z own nm rt B ml R h0 W Q ws Ts Li h cells slots pc' Ls (st)) (ho : 0 ≤ (pc : Int) + off := by decide) (hp : ((pc : Int) + off).toNat = pc' := by rfl) : Walk Z own nm rt B ml R h0 W Q ws Ts Li h cells slots pc Ls (.int y :: .int x :: st) :=
  Walk.lift (fun _ _ _ _ _ _ _ h hx hc r => XS.icmpYes h hx rfl (pc0 := pc) (pc' := pc') rfl (hb hc hd) rfl hc1 ho hp r) k'
theorem Walk.icNo {cd : ClassFile.Cond} {off : Int} {x y : Int32} (hd : decode B pc = .ok (.if_icmp cd off, 3)) (hc1 : if_icmp.holds cd x y = false) (k' : Walk Z own nm rt B ml R h0 W Q ws Ts Li h cells slots pc' Ls (st)) (hp : pc + 3 = pc' := by rfl) : Walk Z own nm rt B ml R h0 W Q ws Ts Li h cells slots pc Ls (.int y :: .int x :: st) :=
  Walk.lift (fun _ _ _ _ _ _ _ h hx hc r => XS.icmpNo h hx rfl (hb hc hd) rfl hc1 (by subst hp; exact r)) k'
theorem Walk.nullYes {off : Int} {v : Value} (hd : decode B pc = .ok (.ifnull off, 3)) (hv : v = .null) (k' : Walk Z own nm rt B ml R h0 W Q ws Ts Li h cells slots pc' Ls (st)) (ho : 0 ≤ (pc : Int) + off := by decide) (hp : ((pc : Int) + off).toNat = pc' := by rfl) : Walk Z own nm rt B ml R h0 W Q ws Ts Li h cells slots pc Ls (v :: st) :=
  Walk.lift (fun _ _ _ _ _ _ _ h hx hc r => XT.nullYes h hx rfl (pc0 := pc) (pc' := pc') rfl (hb hc hd) rfl hv ho hp r) k'
theorem Walk.nullNo {off : Int} {v : Value} (hd : decode B pc = .ok (.ifnull off, 3)) (hr : v.isRef = true) (hv : ¬ v = .null) (k' : Walk Z own nm rt B ml R h0 W Q ws Ts Li h cells slots pc' Ls (st)) (hp : pc + 3 = pc' := by rfl) : Walk Z own nm rt B ml R h0 W Q ws Ts Li h cells slots pc Ls (v :: st) :=
  Walk.lift (fun _ _ _ _ _ _ _ h hx hc r => XT.nullNo h hx rfl (hb hc hd) rfl hr hv (by subst hp; exact r)) k'
theorem Walk.nonnullYes {off : Int} {v : Value} (hd : decode B pc = .ok (.ifnonnull off, 3)) (hr : v.isRef = true) (hv : ¬ v = .null) (k' : Walk Z own nm rt B ml R h0 W Q ws Ts Li h cells slots pc' Ls (st)) (ho : 0 ≤ (pc : Int) + off := by decide) (hp : ((pc : Int) + off).toNat = pc' := by rfl) : Walk Z own nm rt B ml R h0 W Q ws Ts Li h cells slots pc Ls (v :: st) :=
  Walk.lift (fun _ _ _ _ _ _ _ h hx hc r => XT.nonnullYes h hx rfl (pc0 := pc) (pc' := pc') rfl (hb hc hd) rfl hr hv ho hp r) k'
theorem Walk.nonnullNo {off : Int} {v : Value} (hd : decode B pc = .ok (.ifnonnull off, 3)) (hv : v = .null) (k' : Walk Z own nm rt B ml R h0 W Q ws Ts Li h cells slots pc' Ls (st)) (hp : pc + 3 = pc' := by rfl) : Walk Z own nm rt B ml R h0 W Q ws Ts Li h cells slots pc Ls (v :: st) :=
  Walk.lift (fun _ _ _ _ _ _ _ h hx hc r => XT.nonnullNo h hx rfl (hb hc hd) rfl hv (by subst hp; exact r)) k'
theorem Walk.acYes {off : Int} {cd : ClassFile.ACond} {x y : Value} (hd : decode B pc = .ok (.if_acmp cd off, 3)) (h1 : x.isRef = true) (h2 : y.isRef = true) (hc1 : XT.acmp cd x y = true) (k' : Walk Z own nm rt B ml R h0 W Q ws Ts Li h cells slots pc' Ls (st)) (ho : 0 ≤ (pc : Int) + off := by decide) (hp : ((pc : Int) + off).toNat = pc' := by rfl) : Walk Z own nm rt B ml R h0 W Q ws Ts Li h cells slots pc Ls (y :: x :: st) :=
  Walk.lift (fun _ _ _ _ _ _ _ h hx hc r => XT.acmpYes h hx rfl (pc0 := pc) (pc' := pc') rfl (hb hc hd) rfl h1 h2 hc1 ho hp r) k'
theorem Walk.acNo {cd : ClassFile.ACond} {off : Int} {x y : Value} (hd : decode B pc = .ok (.if_acmp cd off, 3)) (h1 : x.isRef = true) (h2 : y.isRef = true) (hc1 : XT.acmp cd x y = false) (k' : Walk Z own nm rt B ml R h0 W Q ws Ts Li h cells slots pc' Ls (st)) (hp : pc + 3 = pc' := by rfl) : Walk Z own nm rt B ml R h0 W Q ws Ts Li h cells slots pc Ls (y :: x :: st) :=
  Walk.lift (fun _ _ _ _ _ _ _ h hx hc r => XT.acmpNo h hx rfl (hb hc hd) rfl h1 h2 hc1 (by subst hp; exact r)) k'
/-! ### steps that touch the heap -/
theorem On.kqOf {p : Program} {l : Launch} {e : Env} {s : State} {m : MethodId} {args : Array Value} {below : List Frame} {meth : Method} {c : Code} {T : State} {locs : List Loc}
    (ho : On Z own nm rt B ml R h0 ws p l e s m args below meth c Ts Li T h locs cells slots) (q : ∀ y, ws y → Fw h0 W y) : Kq h0 h W := by
  obtain ⟨vm0, k0, X, hx, eT, -, -, -, -, -, -, hws, e0, -⟩ := ho
  refine ⟨by rw [← e0, ← eT]; exact X.same.2.1, fun a cl hcl => ?_⟩
  rw [← e0] at hcl
  obtain ⟨c', h1, h2, h3, h4⟩ := X.same.2.2.2.2.2 a cl hcl
  have hlt := (Array.getElem?_eq_some_iff.mp hcl).1
  refine ⟨c', by rw [← eT]; exact h1, by rw [h2], by rw [h2], h3, fun i hi => h4 i fun hm => ?_⟩
  rcases q _ (hws _ hm) with r | r
  · rw [← e0] at r
    exact absurd r (Nat.not_le.mpr hlt)
  · exact hi r
theorem Walk.kept (q : ∀ y, ws y → Fw h0 W y) (k : Kq h0 h W → Walk Z own nm rt B ml R h0 W Q ws Ts Li h cells slots pc Ls st) : Walk Z own nm rt B ml R h0 W Q ws Ts Li h cells slots pc Ls st := by
  intro p l e s m args below meth c T locs ho
  exact k (ho.kqOf q) p l e s m args below meth c T locs ho
theorem Walk.getF {R0 O n d host : String} {index : Nat} {a : Addr} {v : Value} (w : (Cond.fieldLink own index R0 n d).before a0 Z = true ∨ (Cond.fieldLinkNest own index R0 n d host).before a0 Z = true) (via : Via Z R0 O n d) (F : Fld Z h a O n d v) (hd : decode B pc = .ok (.getfield index, 3))
    (k : Walk Z own nm rt B ml R h0 W Q ws Ts Li h cells slots pc' Ls (v :: st)) (hp : pc + 3 = pc' := by rfl) : Walk Z own nm rt B ml R h0 W Q ws Ts Li h cells slots pc Ls (.ref a :: st) := by
  intro p l e s m args below meth c T locs ho
  obtain ⟨vm0, k0, X, hx, eT, a2, a3, a4, a5, a6, a7, a8, a9, a10, hc, r⟩ := ho
  obtain ⟨T', X', e', stp⟩ := RoadKit.getF X hx a4 a5 w via eT F (g := mkF m pc Ls (.ref a :: st)) rfl rfl (hb hc hd)
  subst hp
  obtain ⟨s₂, o, h1, r2⟩ := k p l e s m args below meth c T' locs ⟨vm0, k0, X', hx, e', a2, a3, a4, a5, a6, a7, a8, a9, a10, hc, r⟩
  exact ⟨s₂, o, stp _ h1, r2⟩
theorem Walk.getS {R0 O n d : String} {index : Nat} {v : Value} (w : (Cond.fieldLink own index R0 n d).before a0 Z = true) (via : Via Z R0 O n d) (F : Sta Z Z.heap O n d v) (hd : decode B pc = .ok (.getstatic index, 3))
    (k : Walk Z own nm rt B ml R h0 W Q ws Ts Li h cells slots pc' Ls (v :: st)) (hp : pc + 3 = pc' := by rfl) : Walk Z own nm rt B ml R h0 W Q ws Ts Li h cells slots pc Ls st := by
  refine Walk.old fun E => ?_
  intro p l e s m args below meth c T locs ho
  obtain ⟨vm0, k0, X, hx, eT, a2, a3, a4, a5, a6, a7, a8, a9, a10, hc, r⟩ := ho
  obtain ⟨T', X', e', stp⟩ := RoadKit.getS (host := "") X hx a4 a5 w via eT (F.ext E) (g := mkF m pc Ls st) rfl (hb hc hd)
  subst hp
  obtain ⟨s₂, o, h1, r2⟩ := k p l e s m args below meth c T' locs ⟨vm0, k0, X', hx, e', a2, a3, a4, a5, a6, a7, a8, a9, a10, hc, r⟩
  exact ⟨s₂, o, stp _ h1, r2⟩
theorem Walk.putF {R0 O n d host C : String} {index kk : Nat} {ty : FieldType} {a : Addr} {v old : Value} (w : (Cond.fieldLink own index R0 n d).before a0 Z = true ∨ (Cond.fieldLinkNest own index R0 n d host).before a0 Z = true) (via : Via Z R0 O n d) (F : Fld Z h a O n d old) (E : Exa Z h a C)
    (L : (Cond.lays C O n d).before a0 Z = true ∨ ((Cond.laysFinal C O n d).before a0 Z = true ∧ own = O ∧ nm = "<init>")) (wi : (Cond.instantiable C kk).before a0 Z = true) (hty : parseFieldDescriptor d = some ty) (hn : narrow ty v = v) (hf : fits ty v = true) (hd : decode B pc = .ok (.putfield index, 3))
    (hz : Z.heap.size ≤ a) (hw : ws ⟨a, Jvm.RoadKit.slotOf Z O n d⟩) (k : ∀ h', Kq h h' (fun y => y = ⟨a, Jvm.RoadKit.slotOf Z O n d⟩) → Fld Z h' a O n d v → Walk Z own nm rt B ml R h0 W Q ws Ts Li h' cells slots pc' Ls st) (hp : pc + 3 = pc' := by rfl) : Walk Z own nm rt B ml R h0 W Q ws Ts Li h cells slots pc Ls (v :: .ref a :: st) := by
  intro p l e s m args below meth c T locs ho
  obtain ⟨vm0, k0, X, hx, eT, a2, a3, a4, a5, a6, a7, a8, a9, a10, hc, b1, b2, r⟩ := ho
  obtain ⟨T', h', X', e', Wr', stp⟩ := RoadKit.putF X hx a4 a5 w via eT F E (L.imp id fun q => ⟨q.1, q.2.1, b2.trans q.2.2⟩) wi hty hn hf (g := mkF m pc Ls (v :: .ref a :: st)) rfl rfl (hb hc hd)
  subst hp
  obtain ⟨s₂, o, h1, r2⟩ := k h' (Kq.of_wr Wr') (F.same Wr') p l e s m args below meth c T' _ ⟨vm0, k0, X', hx, e', a2, Nat.le_trans a3 (Nat.le_of_eq Wr'.size.symm), a4, a5, a6, Fr.snoc X' a7 hz, fun y hy => (List.mem_append.mp hy).elim (a8 y) fun q => by cases List.mem_singleton.mp q; exact hw, a9, a10, hc, b1, b2, r⟩
  exact ⟨s₂, o, stp _ h1, r2⟩
theorem Walk.newO {C : String} {index n : Nat} (w : (Cond.classLink own index C).before a0 Z = true) (wi : (Cond.instantiable C n).before a0 Z = true) (wz : (Cond.initialized C).before a0 Z = true) (hd : decode B pc = .ok (.new index, 3)) (hc1 : cells + 1 ≤ R.cells) (hl1 : slots + n ≤ R.slots)
    (k : ∀ h' x, h.size ≤ x → h0.size ≤ x → Z.heap.size ≤ x → Kq h h' noW → Exa Z h' x C → (∀ {O nm d : String} {ty : FieldType}, Laid Z a0 C O nm d → parseFieldDescriptor d = some ty → Fld Z h' x O nm d (defaultValue ty)) → Walk Z own nm rt B ml R h0 W Q ws Ts Li h' (cells + 1) (slots + n) pc' Ls (.ref x :: st)) (hp : pc + 3 = pc' := by rfl) :
    Walk Z own nm rt B ml R h0 W Q ws Ts Li h cells slots pc Ls st := by
  intro p l e s m args below meth c T locs ho
  obtain ⟨vm0, k0, X, hx, eT, a2, a3, a4, a5, a6, a7, a8, a9, a10, hc, r⟩ := ho
  obtain ⟨T', h', X', e', E', A', D', -, stp⟩ := RoadKit.newO X hx a4 a5 w wi wz eT (g := mkF m pc Ls st) rfl (hb hc hd) hc1 hl1
  subst hp
  have g1 : h0.size ≤ h.size := by rw [← a9, ← eT]; exact X.same.2.1
  have g2 : Z.heap.size ≤ h.size := Nat.le_trans (by rw [← a9]; exact a10.1) g1
  obtain ⟨s₂, o, h1, r2⟩ := k h' h.size (Nat.le_refl _) g1 g2 (Kq.of_ext E') A' D' p l e s m args below meth c T' locs ⟨vm0, k0, X', hx, e', a2, Nat.le_trans a3 E'.1, a4, a5, a6, a7, a8, a9, a10, hc, r⟩
  exact ⟨s₂, o, stp _ h1, r2⟩
theorem Av.of_new {k : ClassId} {z : Int32} {a : Addr} {ty : FieldType} (A : Arr Z h a (newA k ty z) ty) (q : ¬ z < 0) : Av Z h a ty z.toNatClampNeg (fun _ => defaultValue ty) := by
  refine ⟨_, A, sz_new _ _ _, (back32 q).2, fun i hi => ?_⟩
  simp [newA, hi]
theorem Walk.newA {aty : ArrayType} {n : Int32} (w : (Cond.arrayClass (newarray.typeOf aty)).before a0 Z = true) (hd : decode B pc = .ok (.newarray aty, 2)) (hn : ¬ n < 0) {cap : Nat} (hcap : n.toNatClampNeg ≤ cap) (hb8 : cap * 8 ≤ 536870912) (hc1 : cells + 1 ≤ R.cells) (hl1 : slots + cap ≤ R.slots)
    (k : ∀ h' x, h.size ≤ x → h0.size ≤ x → Z.heap.size ≤ x → Kq h h' noW → Av Z h' x (newarray.typeOf aty) n.toNatClampNeg (fun _ => defaultValue (newarray.typeOf aty)) → (∃ cA, Arv Z h' x cA (newarray.typeOf aty) n [] (defaultValue (newarray.typeOf aty))) → Walk Z own nm rt B ml R h0 W Q ws Ts Li h' (cells + 1) (slots + cap) pc' Ls (.ref x :: st)) (hp : pc + 2 = pc' := by rfl) :
    Walk Z own nm rt B ml R h0 W Q ws Ts Li h cells slots pc Ls (.int n :: st) := by
  intro p l e s m args below meth c T locs ho
  obtain ⟨vm0, k0, X, hx, eT, a2, a3, a4, a5, a6, a7, a8, a9, a10, hc, r⟩ := ho
  obtain ⟨T', h', cA, X', e', E', A', stp⟩ := RoadKit.newP X hx a4 w eT (g := mkF m pc Ls (.int n :: st)) rfl (hb hc hd) rfl hn hcap hb8 hc1 hl1
  subst hp
  have g1 : h0.size ≤ h.size := by rw [← a9, ← eT]; exact X.same.2.1
  have g2 : Z.heap.size ≤ h.size := Nat.le_trans (by rw [← a9]; exact a10.1) g1
  obtain ⟨s₂, o, h1, r2⟩ := k h' h.size (Nat.le_refl _) g1 g2 (Kq.of_ext E') (Av.of_new A' hn) ⟨cA, Arv.new A' hn⟩ p l e s m args below meth c T' locs ⟨vm0, k0, X', hx, e', a2, Nat.le_trans a3 E'.1, a4, a5, a6, a7, a8, a9, a10, hc, r⟩
  exact ⟨s₂, o, stp _ h1, r2⟩
theorem Walk.castY {K : String} {index : Nat} {a : Addr} (w : (Cond.classLink own index K).before a0 Z = true) (F : Ins Z h a K true) (hd : decode B pc = .ok (.checkcast index, 3))
    (k : Walk Z own nm rt B ml R h0 W Q ws Ts Li h cells slots pc' Ls (.ref a :: st)) (hp : pc + 3 = pc' := by rfl) : Walk Z own nm rt B ml R h0 W Q ws Ts Li h cells slots pc Ls (.ref a :: st) := by
  intro p l e s m args below meth c T locs ho
  obtain ⟨vm0, k0, X, hx, eT, a2, a3, a4, a5, a6, a7, a8, a9, a10, hc, r⟩ := ho
  obtain ⟨T', X', e', stp⟩ := RoadKit.castY X hx a4 a5 w eT F (g := mkF m pc Ls (.ref a :: st)) rfl rfl (hb hc hd)
  subst hp
  obtain ⟨s₂, o, h1, r2⟩ := k p l e s m args below meth c T' locs ⟨vm0, k0, X', hx, e', a2, a3, a4, a5, a6, a7, a8, a9, a10, hc, r⟩
  exact ⟨s₂, o, stp _ h1, r2⟩
theorem Walk.instY {K : String} {index : Nat} {a : Addr} (w : (Cond.classLink own index K).before a0 Z = true) (F : Ins Z h a K true) (hd : decode B pc = .ok (.instanceof index, 3))
    (k : Walk Z own nm rt B ml R h0 W Q ws Ts Li h cells slots pc' Ls (.int 1 :: st)) (hp : pc + 3 = pc' := by rfl) : Walk Z own nm rt B ml R h0 W Q ws Ts Li h cells slots pc Ls (.ref a :: st) := by
  intro p l e s m args below meth c T locs ho
  obtain ⟨vm0, k0, X, hx, eT, a2, a3, a4, a5, a6, a7, a8, a9, a10, hc, r⟩ := ho
  obtain ⟨T', X', e', stp⟩ := RoadKit.instY X hx a4 a5 w eT F (g := mkF m pc Ls (.ref a :: st)) rfl rfl (hb hc hd)
  subst hp
  obtain ⟨s₂, o, h1, r2⟩ := k p l e s m args below meth c T' locs ⟨vm0, k0, X', hx, e', a2, a3, a4, a5, a6, a7, a8, a9, a10, hc, r⟩
  exact ⟨s₂, o, stp _ h1, r2⟩
/-! arrays -/
theorem Walk.alen {a : Addr} {ty : FieldType} {n : Nat} {f : Nat → Value} (F : Av Z h a ty n f) (hd : decode B pc = .ok (.arraylength, 1)) {z : Int32} (hz : n.toInt32 = z)
    (k : Walk Z own nm rt B ml R h0 W Q ws Ts Li h cells slots pc' Ls (.int z :: st)) (hp : pc + 1 = pc' := by rfl) : Walk Z own nm rt B ml R h0 W Q ws Ts Li h cells slots pc Ls (.ref a :: st) := by
  intro p l e s m args below meth c T locs ho
  obtain ⟨s₂, o, h1, r2⟩ := k p l e s m args below meth c T locs ho
  obtain ⟨vm0, k0, X, hx, eT, a2, a3, a4, a5, a6, a7, a8, a9, a10, hc, r⟩ := ho
  obtain ⟨cl, A, A1, A2, A3⟩ := F
  subst hp hz A1
  exact ⟨s₂, o, X.arraylength hx (by rw [eT]; exact A.1) (State.isArrayOf_alike a4.alike A.2.1) (g := mkF m pc Ls (.ref a :: st)) rfl rfl (hb hc hd) _ h1, r2⟩
theorem idx_of {j : Int32} {i n : Nat} (hj : j = Int32.ofNat i) (hi : i < n) (hn : n < 2147483648) : ¬ (j < 0 ∨ n ≤ j.toNatClampNeg) ∧ j.toNatClampNeg = i := by
  subst hj
  have q : (Int32.ofNat i).toNatClampNeg = i := by
    have := idx_in (i := i) (n := i + 1) (by omega) (by omega)
    have e : (Int32.ofNat i).toInt = i := Int32.toInt_ofNat_small (by omega)
    show (Int32.ofNat i).toInt.toNat = i
    rw [e]; rfl
  exact ⟨q.symm ▸ fun z => z.elim (fun y => by
    have e : (Int32.ofNat i).toInt = i := Int32.toInt_ofNat_small (by omega)
    rw [Int32.lt_iff_toInt_lt, e] at y
    have : (0 : Int32).toInt = 0 := rfl
    omega) (fun y => by omega), q⟩
theorem Walk.iaload {a : Addr} {n i : Nat} {f : Nat → Value} {j : Int32} {v : Value} (F : Av Z h a .int n f) (hd : decode B pc = .ok (.iaload, 1)) (hj0 : ¬ j < 0) (hj : j.toNatClampNeg = i) (hi : i < n) (hv : f i = v)
    (k : Walk Z own nm rt B ml R h0 W Q ws Ts Li h cells slots pc' Ls (v :: st)) (hp : pc + 1 = pc' := by rfl) : Walk Z own nm rt B ml R h0 W Q ws Ts Li h cells slots pc Ls (.int j :: .ref a :: st) := by
  intro p l e s m args below meth c T locs ho
  obtain ⟨s₂, o, h1, r2⟩ := k p l e s m args below meth c T locs ho
  obtain ⟨vm0, k0, X, hx, eT, a2, a3, a4, a5, a6, a7, a8, a9, a10, hc, r⟩ := ho
  obtain ⟨cl, A, A1, A2, A3⟩ := F
  subst hp hv A1 hj
  exact ⟨s₂, o, X.iaload hx (by rw [eT]; exact A.1) (State.isArrayOf_alike a4.alike A.2.1) A.2.2 (fun q => q.elim hj0 fun q => absurd hi (Nat.not_lt.mpr q)) (A3 _ hi) (g := mkF m pc Ls (.int j :: .ref a :: st)) rfl rfl (hb hc hd) _ h1, r2⟩
theorem Walk.laload {a : Addr} {n i : Nat} {f : Nat → Value} {j : Int32} {v : Value} (F : Av Z h a .long n f) (hd : decode B pc = .ok (.laload, 1)) (hj0 : ¬ j < 0) (hj : j.toNatClampNeg = i) (hi : i < n) (hv : f i = v)
    (k : Walk Z own nm rt B ml R h0 W Q ws Ts Li h cells slots pc' Ls (v :: st)) (hp : pc + 1 = pc' := by rfl) : Walk Z own nm rt B ml R h0 W Q ws Ts Li h cells slots pc Ls (.int j :: .ref a :: st) := by
  intro p l e s m args below meth c T locs ho
  obtain ⟨s₂, o, h1, r2⟩ := k p l e s m args below meth c T locs ho
  obtain ⟨vm0, k0, X, hx, eT, a2, a3, a4, a5, a6, a7, a8, a9, a10, hc, r⟩ := ho
  obtain ⟨cl, A, A1, A2, A3⟩ := F
  subst hp hv A1 hj
  exact ⟨s₂, o, X.laload hx (by rw [eT]; exact A.1) (State.isArrayOf_alike a4.alike A.2.1) A.2.2 (fun q => q.elim hj0 fun q => absurd hi (Nat.not_lt.mpr q)) (A3 _ hi) (g := mkF m pc Ls (.int j :: .ref a :: st)) rfl rfl (hb hc hd) _ h1, r2⟩
theorem Walk.caload {a : Addr} {n i : Nat} {f : Nat → Value} {j : Int32} {v : Value} (F : Av Z h a .char n f) (hd : decode B pc = .ok (.caload, 1)) (hj0 : ¬ j < 0) (hj : j.toNatClampNeg = i) (hi : i < n) (hv : f i = v)
    (k : Walk Z own nm rt B ml R h0 W Q ws Ts Li h cells slots pc' Ls (v :: st)) (hp : pc + 1 = pc' := by rfl) : Walk Z own nm rt B ml R h0 W Q ws Ts Li h cells slots pc Ls (.int j :: .ref a :: st) := by
  intro p l e s m args below meth c T locs ho
  obtain ⟨s₂, o, h1, r2⟩ := k p l e s m args below meth c T locs ho
  obtain ⟨vm0, k0, X, hx, eT, a2, a3, a4, a5, a6, a7, a8, a9, a10, hc, r⟩ := ho
  obtain ⟨cl, A, A1, A2, A3⟩ := F
  subst hp hv A1 hj
  exact ⟨s₂, o, X.caload hx (by rw [eT]; exact A.1) (State.isArrayOf_alike a4.alike A.2.1) A.2.2 (fun q => q.elim hj0 fun q => absurd hi (Nat.not_lt.mpr q)) (A3 _ hi) (g := mkF m pc Ls (.int j :: .ref a :: st)) rfl rfl (hb hc hd) _ h1, r2⟩
theorem Walk.saload {a : Addr} {n i : Nat} {f : Nat → Value} {j : Int32} {v : Value} (F : Av Z h a .short n f) (hd : decode B pc = .ok (.saload, 1)) (hj0 : ¬ j < 0) (hj : j.toNatClampNeg = i) (hi : i < n) (hv : f i = v)
    (k : Walk Z own nm rt B ml R h0 W Q ws Ts Li h cells slots pc' Ls (v :: st)) (hp : pc + 1 = pc' := by rfl) : Walk Z own nm rt B ml R h0 W Q ws Ts Li h cells slots pc Ls (.int j :: .ref a :: st) := by
  intro p l e s m args below meth c T locs ho
  obtain ⟨s₂, o, h1, r2⟩ := k p l e s m args below meth c T locs ho
  obtain ⟨vm0, k0, X, hx, eT, a2, a3, a4, a5, a6, a7, a8, a9, a10, hc, r⟩ := ho
  obtain ⟨cl, A, A1, A2, A3⟩ := F
  subst hp hv A1 hj
  exact ⟨s₂, o, X.saload hx (by rw [eT]; exact A.1) (State.isArrayOf_alike a4.alike A.2.1) A.2.2 (fun q => q.elim hj0 fun q => absurd hi (Nat.not_lt.mpr q)) (A3 _ hi) (g := mkF m pc Ls (.int j :: .ref a :: st)) rfl rfl (hb hc hd) _ h1, r2⟩
theorem Walk.baload {a : Addr} {n i : Nat} {f : Nat → Value} {j : Int32} {v : Value} (F : Av Z h a .byte n f) (hd : decode B pc = .ok (.baload, 1)) (hj0 : ¬ j < 0) (hj : j.toNatClampNeg = i) (hi : i < n) (hv : f i = v)
    (k : Walk Z own nm rt B ml R h0 W Q ws Ts Li h cells slots pc' Ls (v :: st)) (hp : pc + 1 = pc' := by rfl) : Walk Z own nm rt B ml R h0 W Q ws Ts Li h cells slots pc Ls (.int j :: .ref a :: st) := by
  intro p l e s m args below meth c T locs ho
  obtain ⟨s₂, o, h1, r2⟩ := k p l e s m args below meth c T locs ho
  obtain ⟨vm0, k0, X, hx, eT, a2, a3, a4, a5, a6, a7, a8, a9, a10, hc, r⟩ := ho
  obtain ⟨cl, A, A1, A2, A3⟩ := F
  subst hp hv A1 hj
  exact ⟨s₂, o, X.baloadBytes hx (by rw [eT]; exact A.1) (State.isArrayOf_alike a4.alike A.2.1) A.2.2 (fun q => q.elim hj0 fun q => absurd hi (Nat.not_lt.mpr q)) (A3 _ hi) (g := mkF m pc Ls (.int j :: .ref a :: st)) rfl rfl (hb hc hd) _ h1, r2⟩
theorem Walk.zaload {a : Addr} {n i : Nat} {f : Nat → Value} {j : Int32} {v : Value} (F : Av Z h a .boolean n f) (hd : decode B pc = .ok (.baload, 1)) (hj0 : ¬ j < 0) (hj : j.toNatClampNeg = i) (hi : i < n) (hv : f i = v)
    (k : Walk Z own nm rt B ml R h0 W Q ws Ts Li h cells slots pc' Ls (v :: st)) (hp : pc + 1 = pc' := by rfl) : Walk Z own nm rt B ml R h0 W Q ws Ts Li h cells slots pc Ls (.int j :: .ref a :: st) := by
  intro p l e s m args below meth c T locs ho
  obtain ⟨s₂, o, h1, r2⟩ := k p l e s m args below meth c T locs ho
  obtain ⟨vm0, k0, X, hx, eT, a2, a3, a4, a5, a6, a7, a8, a9, a10, hc, r⟩ := ho
  obtain ⟨cl, A, A1, A2, A3⟩ := F
  subst hp hv A1 hj
  exact ⟨s₂, o, X.baloadBooleans hx (by rw [eT]; exact A.1) (State.isArrayOf_alike a4.alike A.2.1) A.2.2 (fun q => q.elim hj0 fun q => absurd hi (Nat.not_lt.mpr q)) (A3 _ hi) (g := mkF m pc Ls (.int j :: .ref a :: st)) rfl rfl (hb hc hd) _ h1, r2⟩
theorem Walk.aaload {a : Addr} {ty : FieldType} {n i : Nat} {f : Nat → Value} {j : Int32} {v : Value} (F : Av Z h a ty n f) (hty : ty.isReference = true) (hd : decode B pc = .ok (.aaload, 1)) (hj0 : ¬ j < 0) (hj : j.toNatClampNeg = i) (hi : i < n) (hv : f i = v)
    (k : Walk Z own nm rt B ml R h0 W Q ws Ts Li h cells slots pc' Ls (v :: st)) (hp : pc + 1 = pc' := by rfl) : Walk Z own nm rt B ml R h0 W Q ws Ts Li h cells slots pc Ls (.int j :: .ref a :: st) := by
  intro p l e s m args below meth c T locs ho
  obtain ⟨s₂, o, h1, r2⟩ := k p l e s m args below meth c T locs ho
  obtain ⟨vm0, k0, X, hx, eT, a2, a3, a4, a5, a6, a7, a8, a9, a10, hc, r⟩ := ho
  obtain ⟨cl, A, A1, A2, A3⟩ := F
  subst hp hv A1 hj
  exact ⟨s₂, o, X.aaload hx (by rw [eT]; exact A.1) (State.isArrayOf_alike a4.alike A.2.1) hty A.2.2 (fun q => q.elim hj0 fun q => absurd hi (Nat.not_lt.mpr q)) (A3 _ hi) (g := mkF m pc Ls (.int j :: .ref a :: st)) rfl rfl (hb hc hd) _ h1, r2⟩
theorem Av.wr {a : Addr} {ty : FieldType} {n i : Nat} {f : Nat → Value} {v : Value} {h' : Heap} (F : Av Z h a ty n f) (Wr' : Wr h h' a i v) : Av Z h' a ty n (fun k => if k = i then v else f k) := by
  obtain ⟨cl, A, A1, A2, A3⟩ := F
  refine ⟨_, A.same Wr', by simp [Cell.setSlot, A1], A2, fun k hk => ?_⟩
  obtain ⟨_, _, _, hlt, -⟩ := Wr'
  by_cases e : k = i
  · subst e
    simp [Cell.setSlot, A1, hk]
  · show _ = some (if k = i then v else f k)
    rw [if_neg e]
    simp only [Cell.setSlot]
    rw [Array.getElem?_setIfInBounds_ne (Ne.symm e)]; exact A3 k hk
theorem Walk.iastore {a : Addr} {n i : Nat} {f : Nat → Value} {j : Int32} {x : Int32} (F : Av Z h a .int n f) (hd : decode B pc = .ok (.iastore, 1)) (hj0 : ¬ j < 0) (hj : j.toNatClampNeg = i) (hi : i < n) (hz : Z.heap.size ≤ a) (hw : ws ⟨a, i⟩)
    (k : ∀ h', Kq h h' (fun y => y = ⟨a, i⟩) → Av Z h' a .int n (fun k => if k = i then .int x else f k) → Wr h h' a i (.int x) → Walk Z own nm rt B ml R h0 W Q ws Ts Li h' cells slots pc' Ls st) (hp : pc + 1 = pc' := by rfl) : Walk Z own nm rt B ml R h0 W Q ws Ts Li h cells slots pc Ls (.int x :: .int j :: .ref a :: st) := by
  intro p l e s m args below meth c T locs ho
  obtain ⟨vm0, k0, X, hx, eT, a2, a3, a4, a5, a6, a7, a8, a9, a10, hc, r⟩ := ho
  obtain ⟨cl, A, A1, A2, A3⟩ := id F
  subst hp hj
  obtain ⟨T', h', X', e', Wr', stp⟩ := RoadKit.stI X hx a4 eT A (x := x) (fun q => q.elim hj0 fun q => absurd hi (Nat.not_lt.mpr (A1 ▸ q))) (g := mkF m pc Ls (.int x :: .int j :: .ref a :: st)) rfl rfl (hb hc hd)
  obtain ⟨s₂, o, h1, r2⟩ := k h' (Kq.of_wr Wr') (F.wr Wr') Wr' p l e s m args below meth c T' _ ⟨vm0, k0, X', hx, e', a2, Nat.le_trans a3 (Nat.le_of_eq Wr'.size.symm), a4, a5, a6, Fr.snoc X' a7 hz, fun y hy => (List.mem_append.mp hy).elim (a8 y) fun q => by cases List.mem_singleton.mp q; exact hw, a9, a10, hc, r⟩
  exact ⟨s₂, o, stp _ h1, r2⟩
theorem Walk.lastore {a : Addr} {n i : Nat} {f : Nat → Value} {j : Int32} {x : Int64} (F : Av Z h a .long n f) (hd : decode B pc = .ok (.lastore, 1)) (hj0 : ¬ j < 0) (hj : j.toNatClampNeg = i) (hi : i < n) (hz : Z.heap.size ≤ a) (hw : ws ⟨a, i⟩)
    (k : ∀ h', Kq h h' (fun y => y = ⟨a, i⟩) → Av Z h' a .long n (fun k => if k = i then .long x else f k) → Wr h h' a i (.long x) → Walk Z own nm rt B ml R h0 W Q ws Ts Li h' cells slots pc' Ls st) (hp : pc + 1 = pc' := by rfl) : Walk Z own nm rt B ml R h0 W Q ws Ts Li h cells slots pc Ls (.long x :: .int j :: .ref a :: st) := by
  intro p l e s m args below meth c T locs ho
  obtain ⟨vm0, k0, X, hx, eT, a2, a3, a4, a5, a6, a7, a8, a9, a10, hc, r⟩ := ho
  obtain ⟨cl, A, A1, A2, A3⟩ := id F
  subst hp hj
  obtain ⟨T', h', X', e', Wr', stp⟩ := RoadKit.stJ X hx a4 eT A (x := x) (fun q => q.elim hj0 fun q => absurd hi (Nat.not_lt.mpr (A1 ▸ q))) (g := mkF m pc Ls (.long x :: .int j :: .ref a :: st)) rfl rfl (hb hc hd)
  obtain ⟨s₂, o, h1, r2⟩ := k h' (Kq.of_wr Wr') (F.wr Wr') Wr' p l e s m args below meth c T' _ ⟨vm0, k0, X', hx, e', a2, Nat.le_trans a3 (Nat.le_of_eq Wr'.size.symm), a4, a5, a6, Fr.snoc X' a7 hz, fun y hy => (List.mem_append.mp hy).elim (a8 y) fun q => by cases List.mem_singleton.mp q; exact hw, a9, a10, hc, r⟩
  exact ⟨s₂, o, stp _ h1, r2⟩
theorem Walk.castore {a : Addr} {n i : Nat} {f : Nat → Value} {j : Int32} {x : Int32} (F : Av Z h a .char n f) (hd : decode B pc = .ok (.castore, 1)) (hj0 : ¬ j < 0) (hj : j.toNatClampNeg = i) (hi : i < n) (hz : Z.heap.size ≤ a) (hw : ws ⟨a, i⟩)
    (k : ∀ h', Kq h h' (fun y => y = ⟨a, i⟩) → Av Z h' a .char n (fun k => if k = i then .int (nar .char x) else f k) → Wr h h' a i (.int (nar .char x)) → Walk Z own nm rt B ml R h0 W Q ws Ts Li h' cells slots pc' Ls st) (hp : pc + 1 = pc' := by rfl) : Walk Z own nm rt B ml R h0 W Q ws Ts Li h cells slots pc Ls (.int x :: .int j :: .ref a :: st) := by
  intro p l e s m args below meth c T locs ho
  obtain ⟨vm0, k0, X, hx, eT, a2, a3, a4, a5, a6, a7, a8, a9, a10, hc, r⟩ := ho
  obtain ⟨cl, A, A1, A2, A3⟩ := id F
  subst hp hj
  obtain ⟨T', h', X', e', Wr', stp⟩ := RoadKit.stC X hx a4 eT A (x := x) (fun q => q.elim hj0 fun q => absurd hi (Nat.not_lt.mpr (A1 ▸ q))) (g := mkF m pc Ls (.int x :: .int j :: .ref a :: st)) rfl rfl (hb hc hd)
  obtain ⟨s₂, o, h1, r2⟩ := k h' (Kq.of_wr Wr') (F.wr Wr') Wr' p l e s m args below meth c T' _ ⟨vm0, k0, X', hx, e', a2, Nat.le_trans a3 (Nat.le_of_eq Wr'.size.symm), a4, a5, a6, Fr.snoc X' a7 hz, fun y hy => (List.mem_append.mp hy).elim (a8 y) fun q => by cases List.mem_singleton.mp q; exact hw, a9, a10, hc, r⟩
  exact ⟨s₂, o, stp _ h1, r2⟩
theorem Walk.sastore {a : Addr} {n i : Nat} {f : Nat → Value} {j : Int32} {x : Int32} (F : Av Z h a .short n f) (hd : decode B pc = .ok (.sastore, 1)) (hj0 : ¬ j < 0) (hj : j.toNatClampNeg = i) (hi : i < n) (hz : Z.heap.size ≤ a) (hw : ws ⟨a, i⟩)
    (k : ∀ h', Kq h h' (fun y => y = ⟨a, i⟩) → Av Z h' a .short n (fun k => if k = i then .int (nar .short x) else f k) → Wr h h' a i (.int (nar .short x)) → Walk Z own nm rt B ml R h0 W Q ws Ts Li h' cells slots pc' Ls st) (hp : pc + 1 = pc' := by rfl) : Walk Z own nm rt B ml R h0 W Q ws Ts Li h cells slots pc Ls (.int x :: .int j :: .ref a :: st) := by
  intro p l e s m args below meth c T locs ho
  obtain ⟨vm0, k0, X, hx, eT, a2, a3, a4, a5, a6, a7, a8, a9, a10, hc, r⟩ := ho
  obtain ⟨cl, A, A1, A2, A3⟩ := id F
  subst hp hj
  obtain ⟨T', h', X', e', Wr', stp⟩ := RoadKit.stS X hx a4 eT A (x := x) (fun q => q.elim hj0 fun q => absurd hi (Nat.not_lt.mpr (A1 ▸ q))) (g := mkF m pc Ls (.int x :: .int j :: .ref a :: st)) rfl rfl (hb hc hd)
  obtain ⟨s₂, o, h1, r2⟩ := k h' (Kq.of_wr Wr') (F.wr Wr') Wr' p l e s m args below meth c T' _ ⟨vm0, k0, X', hx, e', a2, Nat.le_trans a3 (Nat.le_of_eq Wr'.size.symm), a4, a5, a6, Fr.snoc X' a7 hz, fun y hy => (List.mem_append.mp hy).elim (a8 y) fun q => by cases List.mem_singleton.mp q; exact hw, a9, a10, hc, r⟩
  exact ⟨s₂, o, stp _ h1, r2⟩
theorem Walk.bastore {a : Addr} {n i : Nat} {f : Nat → Value} {j : Int32} {x : Int32} (F : Av Z h a .byte n f) (hd : decode B pc = .ok (.bastore, 1)) (hj0 : ¬ j < 0) (hj : j.toNatClampNeg = i) (hi : i < n) (hz : Z.heap.size ≤ a) (hw : ws ⟨a, i⟩)
    (k : ∀ h', Kq h h' (fun y => y = ⟨a, i⟩) → Av Z h' a .byte n (fun k => if k = i then .int (nar .byte x) else f k) → Wr h h' a i (.int (nar .byte x)) → Walk Z own nm rt B ml R h0 W Q ws Ts Li h' cells slots pc' Ls st) (hp : pc + 1 = pc' := by rfl) : Walk Z own nm rt B ml R h0 W Q ws Ts Li h cells slots pc Ls (.int x :: .int j :: .ref a :: st) := by
  intro p l e s m args below meth c T locs ho
  obtain ⟨vm0, k0, X, hx, eT, a2, a3, a4, a5, a6, a7, a8, a9, a10, hc, r⟩ := ho
  obtain ⟨cl, A, A1, A2, A3⟩ := id F
  subst hp hj
  obtain ⟨T', h', X', e', Wr', stp⟩ := RoadKit.stB X hx a4 eT A (x := x) (fun q => q.elim hj0 fun q => absurd hi (Nat.not_lt.mpr (A1 ▸ q))) (g := mkF m pc Ls (.int x :: .int j :: .ref a :: st)) rfl rfl (hb hc hd)
  obtain ⟨s₂, o, h1, r2⟩ := k h' (Kq.of_wr Wr') (F.wr Wr') Wr' p l e s m args below meth c T' _ ⟨vm0, k0, X', hx, e', a2, Nat.le_trans a3 (Nat.le_of_eq Wr'.size.symm), a4, a5, a6, Fr.snoc X' a7 hz, fun y hy => (List.mem_append.mp hy).elim (a8 y) fun q => by cases List.mem_singleton.mp q; exact hw, a9, a10, hc, r⟩
  exact ⟨s₂, o, stp _ h1, r2⟩
theorem Walk.zastore {a : Addr} {n i : Nat} {f : Nat → Value} {j : Int32} {x : Int32} (F : Av Z h a .boolean n f) (hd : decode B pc = .ok (.bastore, 1)) (hj0 : ¬ j < 0) (hj : j.toNatClampNeg = i) (hi : i < n) (hz : Z.heap.size ≤ a) (hw : ws ⟨a, i⟩)
    (k : ∀ h', Kq h h' (fun y => y = ⟨a, i⟩) → Av Z h' a .boolean n (fun k => if k = i then .int (nar .boolean x) else f k) → Wr h h' a i (.int (nar .boolean x)) → Walk Z own nm rt B ml R h0 W Q ws Ts Li h' cells slots pc' Ls st) (hp : pc + 1 = pc' := by rfl) : Walk Z own nm rt B ml R h0 W Q ws Ts Li h cells slots pc Ls (.int x :: .int j :: .ref a :: st) := by
  intro p l e s m args below meth c T locs ho
  obtain ⟨vm0, k0, X, hx, eT, a2, a3, a4, a5, a6, a7, a8, a9, a10, hc, r⟩ := ho
  obtain ⟨cl, A, A1, A2, A3⟩ := id F
  subst hp hj
  obtain ⟨T', h', X', e', Wr', stp⟩ := RoadKit.stZ X hx a4 eT A (x := x) (fun q => q.elim hj0 fun q => absurd hi (Nat.not_lt.mpr (A1 ▸ q))) (g := mkF m pc Ls (.int x :: .int j :: .ref a :: st)) rfl rfl (hb hc hd)
  obtain ⟨s₂, o, h1, r2⟩ := k h' (Kq.of_wr Wr') (F.wr Wr') Wr' p l e s m args below meth c T' _ ⟨vm0, k0, X', hx, e', a2, Nat.le_trans a3 (Nat.le_of_eq Wr'.size.symm), a4, a5, a6, Fr.snoc X' a7 hz, fun y hy => (List.mem_append.mp hy).elim (a8 y) fun q => by cases List.mem_singleton.mp q; exact hw, a9, a10, hc, r⟩
  exact ⟨s₂, o, stp _ h1, r2⟩
/-! ### calls -/
/-- who pays a call -/
def Pay (Z : State) (y : MethodName) (R : Room) (len Wd : Nat) (as : List Value) (h : Heap) (Ts : TsT) (Li : LiT) (k n : Nat) (V : Loc → Prop) (P : QT) : Prop :=
  ∀ l p e below s args, Z.Warmed39 s.vm → LS Z s.vm Ts Li → Ext Z.heap h → BackS l R p e below s args y len Wd (fun A a => a = as.toArray ∧ A.U.heap = h ∧ A.cells + k ≤ R.cells ∧ A.slots + n ≤ R.slots)
    (fun A _ v B => ∃ L Ts' Li', P v B.U.heap Ts' Li' ∧ LS Z B.U.vm Ts' Li' ∧ Fr Z.heap.size L ∧ (∀ y ∈ L, Fw h V y) ∧ Kq h B.U.heap V ∧ B.locs = A.locs ++ L ∧ B.cells = A.cells + k ∧ B.slots = A.slots + n)
theorem Kq.of_end {s t : State} {o : Outcome} {L : List Loc} {k n : Nat} {V : Loc → Prop} (hE : ReturnedEndW s o t L k n) (q : ∀ y ∈ L, Fw s.heap V y) : Kq s.heap t.heap V := by
  obtain ⟨-, -, -, hs⟩ := hE
  refine ⟨hs.2.1, fun a cl hcl => ?_⟩
  obtain ⟨c', h1, h2, h3, h4⟩ := hs.2.2.2.2.2 a cl hcl
  have hlt := (Array.getElem?_eq_some_iff.mp hcl).1
  refine ⟨c', h1, by rw [h2], by rw [h2], h3, fun i hi => h4 i fun hm => ?_⟩
  rcases q _ hm with r | r
  · exact absurd r (Nat.not_le.mpr hlt)
  · exact hi r
theorem Con.pay {y : MethodName} {bytes : ByteArray} {maxL : Nat} {ret : Option FieldType} {rm : Room} {as : List Value} {V : Loc → Prop} {P : QT} {len Wd : Nat} (hM : Con Z y bytes maxL ret rm as h Ts Li V P) (wc : (Cond.code y bytes maxL ret).before a0 Z = true) (wz : (Cond.initialized y.cls).before a0 Z = true)
    (hf : rm.frames + 1 ≤ R.frames) (hl : Wd + (maxL + 11) + rm.locals ≤ R.locals) : Pay Z y R len Wd as h Ts Li rm.cells rm.slots V P := by
  intro l p e below s args hZ hL hE
  exact BackS.of_freeW (bytes := bytes) (maxL := maxL) (ret := ret) (E := fun _ first o t L k n => k = rm.cells ∧ n = rm.slots ∧ ∃ v Ts' Li', o = .returned v ∧ P v t.heap Ts' Li' ∧ LS Z t.vm Ts' Li' ∧ Fr Z.heap.size L ∧ (∀ y ∈ L, Fw h V y)) (hM l []) hf hl
    (fun m meth c A a Y hp => have hU : Z.Warmed39 A.U.vm := wtrans hZ Y.warmed
      ⟨by show (Cond.and _ .tt).before a A.U = true; rw [Cond.before_and, mv hU wc]; rfl, mv hU wc, mv hU wz, hp.2.2.1, hp.2.2.2⟩)
    (fun m meth c A a g mk Y hp => ⟨hp.1, wtrans hZ Y.warmed, hp.2.1, by rw [show (A.U.calling g mk a).heap = A.U.heap from rfl, hp.2.1]; exact hE, LS.warm (s := s) hL Y.warmed⟩) (fun _ _ _ _ _ _ _ _ _ => trivial)
    (fun _ _ _ _ ⟨v, L, Ts', Li', h1, h2, h3, h4, h5, h6⟩ => ⟨L, _, _, h6, rfl, rfl, v, Ts', Li', h1, h2, h3, h4, h5⟩)
    (fun m meth c A a g mk v t L k n Y hp hq hr ⟨e1, e2, v', Ts', Li', e3, e4, e5, e6, e7⟩ => by
      cases e3; subst e1 e2
      have e0 : (A.U.calling g mk a).heap = h := hp.2.1
      have e8 : Kq h t.heap V := e0 ▸ Kq.of_end hr (e0 ▸ e7)
      exact ⟨L, Ts', Li', e4, e5, e6, e7, e8, rfl, rfl, rfl⟩)
/-- a payer of the library's own (it interns nothing) -/
theorem Pay.of_back {y : MethodName} {len Wd : Nat} {as : List Value} {k n : Nat} {P : Option Value → Heap → List Loc → Prop} {V : Loc → Prop}
    (hB : ∀ l p e below s args, Z.Warmed39 s.vm → Back l R p e below s args y len Wd (fun A a => a = as.toArray ∧ A.U.heap = h ∧ A.cells + k ≤ R.cells ∧ A.slots + n ≤ R.slots) (fun A _ v B => ∃ L, P v B.U.heap L ∧ B.locs = A.locs ++ L ∧ B.cells = A.cells + k ∧ B.slots = A.slots + n))
    (hK : ∀ v h' L, P v h' L → Fr Z.heap.size L ∧ (∀ y ∈ L, Fw h V y) ∧ Kq h h' V) : Pay Z y R len Wd as h Ts Li k n V (fun v h' Ts' Li' => (∃ L, P v h' L) ∧ Ts' = Ts ∧ Li' = Li) := by
  intro l p e below s args hZ hL hE m meth c A g ig mk a X hg hsize hdg hW hn hp
  obtain ⟨v, B, X', ⟨L, hq, e1, e2, e3⟩, hst⟩ := hB l p e below s args hZ m meth c A g ig mk a X hg hsize hdg hW hn hp
  obtain ⟨k1, k2, k3⟩ := hK _ _ _ hq
  exact ⟨v, B, X'.retabled X'.warmed.wide, X'.warmed.since _, by rw [hp.2.1]; exact k3.1, ⟨L, Ts, Li, ⟨⟨L, hq⟩, rfl, rfl⟩, LS.warm (s := s) hL X'.warmed, k1, k2, k3, e1, e2, e3⟩, hst⟩
theorem Pay.mono {y : MethodName} {len Wd : Nat} {as : List Value} {k n : Nat} {P P' : QT} {V : Loc → Prop} (hP : Pay Z y R len Wd as h Ts Li k n V P) (hq : ∀ v h' Ts' Li', Kq h h' V → P v h' Ts' Li' → P' v h' Ts' Li') : Pay Z y R len Wd as h Ts Li k n V P' := by
  intro l p e below s args hZ hL hE m meth c A g ig mk a X hg hsize hdg hW hn hp
  obtain ⟨v, B, X', r1, r2, ⟨L, Ts', Li', q1, q2, q3, q4, q5, q6⟩, hst⟩ := hP l p e below s args hZ hL hE m meth c A g ig mk a X hg hsize hdg hW hn hp
  exact ⟨v, B, X', r1, r2, ⟨L, Ts', Li', hq _ _ _ _ q5 q1, q2, q3, q4, q5, q6⟩, hst⟩
/-- behind a call: the walk stands again -/
theorem On.after {p : Program} {l : Launch} {e : Env} {s : State} {m : MethodId} {args : Array Value} {below : List Frame} {meth : Method} {c : Code} {T : State} {locs : List Loc} {k n : Nat} {V : Loc → Prop} {vm0 : Vm} {k0 : Nat}
    (hx : p.tables.exec = Jvm.exec) (eT : T.heap = h) (a2 : s.Since vm0 k0) (a3 : k0 ≤ h.size) (a4 : Z.Warmed39 vm0) (a5 : vm0.findClass own = some m.cls) (a7 : Fr Z.heap.size locs) (a8 : ∀ y ∈ locs, ws y)
    (r : s.heap = h0 ∧ Ext Z.heap s.heap ∧ c.code = B ∧ c.maxLocals = ml ∧ meth.name = nm ∧ meth.sig.returnType = rt ∧ meth.locks = false) (hv : ∀ y, Fw h V y → ws y)
    {BU : State} {Bl : List Loc} {Bc Bs : Nat} (X' : Stand p l e R ((s.setVm vm0).setVm BU.vm) m args below meth c BU Bl Bc Bs) (hS : (s.setVm vm0).Since BU.vm BU.heap.size) (hg : T.heap.size ≤ BU.heap.size)
    {L : List Loc} {Ts' : TsT} {Li' : LiT} (q2 : LS Z BU.vm Ts' Li') (q3 : Fr Z.heap.size L) (q4 : ∀ y ∈ L, Fw h V y) (e1 : Bl = locs ++ L) (e2 : Bc = cells + k) (e3 : Bs = slots + n) :
    On Z own nm rt B ml R h0 ws p l e s m args below meth c Ts' Li' BU BU.heap (locs ++ L) (cells + k) (slots + n) := by
  subst e1 e2 e3
  exact ⟨BU.vm, BU.heap.size, X', hx, rfl, a2.trans hS (Nat.le_trans a3 (eT ▸ hg)), Nat.le_refl _, State.Warmed39.trans (t := s.setVm vm0) a4 hS.1, (hS.1.alike.findClass _ _).trans a5, q2, Fr.app a7 q3, fun y hy => (List.mem_append.mp hy).elim (a8 y) fun q => hv _ (q4 y q), r⟩
theorem Walk.callS {index : Nat} {y : MethodName} {bytes : ByteArray} {maxL : Nat} {ret : Option FieldType} {Wd : Nat} {as rest : List Value} {k n : Nat} {V : Loc → Prop} {P : QT}
    (wl : (Cond.methodLink own index y).before a0 Z = true) (ws1 : (Cond.static y).before a0 Z = true) (wi : (Cond.initialized y.cls).before a0 Z = true) (wc : (Cond.code y bytes maxL ret).before a0 Z = true) (hP : Pay Z y R 3 Wd as h Ts Li k n V P)
    (hlen : ∀ sig, parseMethodDescriptor y.desc = some sig → as.length = sig.parameters.length) (hd : decode B pc = .ok (.invokestatic index, 3)) (hst : st = as.reverse ++ rest) (hW : (rest.map fun v => v.category).sum ≤ Wd) (hsz : Ls.size = ml) (hc1 : cells + k ≤ R.cells) (hl1 : slots + n ≤ R.slots) (hv : h0.size ≤ h.size → ∀ y, Fw h V y → ws y)
    (kk : ∀ v h' Ts' Li', P v h' Ts' Li' → Kq h h' V → Walk Z own nm rt B ml R h0 W Q ws Ts' Li' h' (cells + k) (slots + n) pc' Ls (v.toList ++ rest)) (hy : y.cls ≠ "java/lang/invoke/MethodHandle" ∧ y.cls ≠ "java/lang/invoke/VarHandle" := by decide) (hp : pc + 3 = pc' := by rfl) :
    Walk Z own nm rt B ml R h0 W Q ws Ts Li h cells slots pc Ls st := by
  refine Walk.old fun E => ?_
  intro p l e s m args below meth c T locs ho
  obtain ⟨vm0, k0, X, hx, eT, a2, a3, a4, a5, a6, a7, a8, a9, a10, hc, b1, r⟩ := ho
  obtain ⟨v, vm₁, B', -, X', hS, hg, ⟨L, Ts', Li', q1, q2, q3, q4, q5, e1, e2, e3⟩, stp⟩ := RoadKit.callSS X hx (y := y) a5 (mvT a4 wl) (mvT a4 ws1) (mvT a4 wi) (mvT a4 wc) hy (hP l p e below _ args a4 a6 E) (g := mkF m pc Ls st) rfl (hsz.trans b1.symm) (argsL := as) (rest := rest) hlen hst (by show 2 * 0 + _ ≤ _; omega) (hb hc hd) (fun _ _ => ⟨rfl, eT, hc1, hl1⟩)
  subst hp
  obtain ⟨s₂, o, h1, r2⟩ := kk v _ Ts' Li' q1 q5 p l e s m args below meth c B'.U _ (On.after (k := k) (n := n) hx eT a2 a3 a4 a5 a7 a8 ⟨a9, a10, hc, b1, r⟩ (hv (by rw [← a9, ← eT]; exact X.same.2.1)) X' hS hg q2 q3 q4 e1 e2 e3)
  exact ⟨s₂, o, stp.trans h1, r2⟩
theorem Walk.callI {index : Nat} {y : MethodName} {bytes : ByteArray} {maxL : Nat} {Wd : Nat} {a : Addr} {as rest : List Value} {k n : Nat} {V : Loc → Prop} {P : QT}
    (wl : (Cond.methodLink own index y).before a0 Z = true) (ws1 : (Cond.instanceMethod y).before a0 Z = true) (wc : (Cond.code y bytes maxL none).before a0 Z = true) (hP : Pay Z y R 3 Wd (.ref a :: as) h Ts Li k n V P)
    (hlen : ∀ sig, parseMethodDescriptor y.desc = some sig → as.length = sig.parameters.length) (hd : decode B pc = .ok (.invokespecial index, 3)) (hst : st = as.reverse ++ .ref a :: rest) (hW : (rest.map fun v => v.category).sum ≤ Wd) (hsz : Ls.size = ml) (hc1 : cells + k ≤ R.cells) (hl1 : slots + n ≤ R.slots) (hv : h0.size ≤ h.size → ∀ y, Fw h V y → ws y)
    (kk : ∀ v h' Ts' Li', P v h' Ts' Li' → Kq h h' V → Walk Z own nm rt B ml R h0 W Q ws Ts' Li' h' (cells + k) (slots + n) pc' Ls (v.toList ++ rest)) (hy1 : y.name = "<init>" := by rfl) (hy : y.cls ≠ "java/lang/invoke/MethodHandle" ∧ y.cls ≠ "java/lang/invoke/VarHandle" := by decide) (hp : pc + 3 = pc' := by rfl) :
    Walk Z own nm rt B ml R h0 W Q ws Ts Li h cells slots pc Ls st := by
  refine Walk.old fun E => ?_
  intro p l e s m args below meth c T locs ho
  obtain ⟨vm0, k0, X, hx, eT, a2, a3, a4, a5, a6, a7, a8, a9, a10, hc, b1, r⟩ := ho
  obtain ⟨v, vm₁, B', -, X', hS, hg, ⟨L, Ts', Li', q1, q2, q3, q4, q5, e1, e2, e3⟩, stp⟩ := X.specialBackS hx (y := y) hy1 a5 (mvT a4 wl) (mvT a4 ws1) (mvT a4 wc) hy (hP l p e below _ args a4 a6 E) (g := mkF m pc Ls st) rfl (hsz.trans b1.symm) (Steps.refl _) (a := a) (argsL := as) (rest := rest) hlen hst (by show 2 * 0 + _ ≤ _; omega) (hb hc hd) (fun _ _ => ⟨rfl, eT, hc1, hl1⟩)
  subst hp
  obtain ⟨s₂, o, h1, r2⟩ := kk v _ Ts' Li' q1 q5 p l e s m args below meth c B'.U _ (On.after (k := k) (n := n) hx eT a2 a3 a4 a5 a7 a8 ⟨a9, a10, hc, b1, r⟩ (hv (by rw [← a9, ← eT]; exact X.same.2.1)) X' hS hg q2 q3 q4 e1 e2 e3)
  exact ⟨s₂, o, stp.trans h1, r2⟩
theorem Walk.callV {index : Nat} {C : String} {y z : MethodName} {Wd : Nat} {a : Addr} {as rest : List Value} {k n : Nat} {V : Loc → Prop} {P : QT}
    (wl : (Cond.methodLink own index y).before a0 Z = true) (wd : (Cond.declares y).before a0 Z = true) (wf : (Cond.selects y.cls y y).before a0 Z = true) (wsl : (Cond.selects C y z).before a0 Z = true) (wim : (Cond.instanceMethod z).before a0 Z = true) (Ex : Exa Z h a C) (hP : Pay Z z R 3 Wd (.ref a :: as) h Ts Li k n V P)
    (hlen : ∀ sig, parseMethodDescriptor y.desc = some sig → as.length = sig.parameters.length) (hd : decode B pc = .ok (.invokevirtual index, 3)) (hst : st = as.reverse ++ .ref a :: rest) (hW : (rest.map fun v => v.category).sum ≤ Wd) (hsz : Ls.size = ml) (hc1 : cells + k ≤ R.cells) (hl1 : slots + n ≤ R.slots) (hv : h0.size ≤ h.size → ∀ y, Fw h V y → ws y)
    (kk : ∀ v h' Ts' Li', P v h' Ts' Li' → Kq h h' V → Walk Z own nm rt B ml R h0 W Q ws Ts' Li' h' (cells + k) (slots + n) pc' Ls (v.toList ++ rest)) (hy : y.cls ≠ "java/lang/invoke/MethodHandle" ∧ y.cls ≠ "java/lang/invoke/VarHandle" := by decide) (hp : pc + 3 = pc' := by rfl) :
    Walk Z own nm rt B ml R h0 W Q ws Ts Li h cells slots pc Ls st := by
  refine Walk.old fun E => ?_
  intro p l e s m args below meth c T locs ho
  obtain ⟨vm0, k0, X, hx, eT, a2, a3, a4, a5, a6, a7, a8, a9, a10, hc, b1, r⟩ := ho
  obtain ⟨cB, kB, i1, i2, i3⟩ := isOf (s := s.setVm vm0) a4 eT Ex
  obtain ⟨v, vm₁, B', -, X', hS, hg, ⟨L, Ts', Li', q1, q2, q3, q4, q5, e1, e2, e3⟩, stp⟩ := X.virtualBackS hx (y := y) (z := z) a5 (mvT a4 wl) (mvT a4 wd) (notFace_of_selects (args := #[]) (mvT a4 wf)) (mvT a4 wsl) (mvT a4 wim) hy (hP l p e below _ args a4 a6 E) i1 i3 (g := mkF m pc Ls st) rfl (hsz.trans b1.symm) (Steps.refl _) (argsL := as) (rest := rest) hlen hst (by show 2 * 0 + _ ≤ _; omega) (hb hc hd) (fun _ _ => ⟨rfl, eT, hc1, hl1⟩)
  subst hp
  obtain ⟨s₂, o, h1, r2⟩ := kk v _ Ts' Li' q1 q5 p l e s m args below meth c B'.U _ (On.after (k := k) (n := n) hx eT a2 a3 a4 a5 a7 a8 ⟨a9, a10, hc, b1, r⟩ (hv (by rw [← a9, ← eT]; exact X.same.2.1)) X' hS hg q2 q3 q4 e1 e2 e3)
  exact ⟨s₂, o, stp.trans h1, r2⟩
/-- Object.<init> -/
theorem Walk.initO {index : Nat} {a : Addr} (w1 : (Cond.methodLink own index Lib.objectInit).before a0 Z = true) (w2 : (Cond.instanceMethod Lib.objectInit).before a0 Z = true) (w3 : (Cond.code Lib.objectInit ⟨#[0xb1]⟩ 1 none).before a0 Z = true)
    (hd : decode B pc = .ok (.invokespecial index, 3)) (hsz : Ls.size = ml) {Wd : Nat} (hW : (st.map fun v => v.category).sum ≤ Wd) (hfr : 1 ≤ R.frames) (hlo : Wd + 12 ≤ R.locals) (k : Walk Z own nm rt B ml R h0 W Q ws Ts Li h cells slots pc' Ls st) (hp : pc + 3 = pc' := by rfl) : Walk Z own nm rt B ml R h0 W Q ws Ts Li h cells slots pc Ls (.ref a :: st) := by
  intro p l e s m args below meth c T locs ho
  obtain ⟨vm0, k0, X, hx, eT, a2, a3, a4, a5, a6, a7, a8, a9, a10, hc, b1, r⟩ := ho
  obtain ⟨T', X', e', stp⟩ := RoadKit.initO X hx a4 a5 w1 w2 w3 eT (g := mkF m pc Ls (.ref a :: st)) rfl (hsz.trans b1.symm) rfl (hb hc hd) hfr (W := Wd) (by show 2 * 0 + _ ≤ _; omega) hlo
  subst hp
  obtain ⟨s₂, o, h1, r2⟩ := k p l e s m args below meth c T' locs ⟨vm0, k0, X', hx, e', a2, a3, a4, a5, a6, a7, a8, a9, a10, hc, b1, r⟩
  exact ⟨s₂, o, stp _ h1, r2⟩
/-! ### constants -/
theorem Walk.ldcI {index : Nat} {v : Int32} (w : (Cond.constant own index v).before a0 Z = true) (hd : decode B pc = .ok (.ldc index, 2)) (k : Walk Z own nm rt B ml R h0 W Q ws Ts Li h cells slots pc' Ls (.int v :: st)) (hp : pc + 2 = pc' := by rfl) : Walk Z own nm rt B ml R h0 W Q ws Ts Li h cells slots pc Ls st := by
  intro p l e s m args below meth c T locs ho
  obtain ⟨s₂, o, h1, r2⟩ := k p l e s m args below meth c T locs ho
  obtain ⟨vm0, k0, X, hx, eT, a2, a3, a4, a5, a6, a7, a8, a9, a10, hc, r⟩ := ho
  subst hp
  exact ⟨s₂, o, X.ldcI (g := mkF m pc Ls st) hx a5 (mvT a4 w) rfl (hb hc hd) h1, r2⟩
theorem Walk.ldcJ {index : Nat} {v : Int64} (w : (Cond.constantLong own index v).before a0 Z = true) (hd : decode B pc = .ok (.ldc2_w index, 3)) (k : Walk Z own nm rt B ml R h0 W Q ws Ts Li h cells slots pc' Ls (.long v :: st)) (hp : pc + 3 = pc' := by rfl) : Walk Z own nm rt B ml R h0 W Q ws Ts Li h cells slots pc Ls st := by
  intro p l e s m args below meth c T locs ho
  obtain ⟨s₂, o, h1, r2⟩ := k p l e s m args below meth c T locs ho
  obtain ⟨vm0, k0, X, hx, eT, a2, a3, a4, a5, a6, a7, a8, a9, a10, hc, r⟩ := ho
  subst hp
  exact ⟨s₂, o, X.ldc2J (g := mkF m pc Ls st) hx a5 (mvT a4 w) rfl (hb hc hd) h1, r2⟩
theorem Walk.lswHit {x : Int32} {dflt : Int} {prs : Array (Int × Int)} {len : Nat} {a off : Int} (hd : decode B pc = .ok (.lookupswitch dflt prs, len)) (hso : (prs.toList.zip (prs.toList.drop 1)).all (fun (a, next) => a.1 < next.1) = true) (hf : prs.find? (·.1 == x.toInt) = some (a, off))
    (k : Walk Z own nm rt B ml R h0 W Q ws Ts Li h cells slots pc' Ls st) (ho1 : 0 ≤ (pc : Int) + off := by decide) (hp : ((pc : Int) + off).toNat = pc' := by rfl) : Walk Z own nm rt B ml R h0 W Q ws Ts Li h cells slots pc Ls (.int x :: st) := by
  intro p l e s m args below meth c T locs ho
  obtain ⟨s₂, o, h1, r2⟩ := k p l e s m args below meth c T locs ho
  obtain ⟨vm0, k0, X, hx, eT, a2, a3, a4, a5, a6, a7, a8, a9, a10, hc, r⟩ := ho
  subst hp
  exact ⟨s₂, o, X.lookupswitchHit hx (g := mkF m pc Ls (.int x :: st)) rfl rfl (hb hc hd) hso hf ho1 _ h1, r2⟩
theorem Walk.lswMiss {x : Int32} {dflt : Int} {prs : Array (Int × Int)} {len : Nat} (hd : decode B pc = .ok (.lookupswitch dflt prs, len)) (hso : (prs.toList.zip (prs.toList.drop 1)).all (fun (a, next) => a.1 < next.1) = true) (hf : prs.find? (·.1 == x.toInt) = none)
    (k : Walk Z own nm rt B ml R h0 W Q ws Ts Li h cells slots pc' Ls st) (ho1 : 0 ≤ (pc : Int) + dflt := by decide) (hp : ((pc : Int) + dflt).toNat = pc' := by rfl) : Walk Z own nm rt B ml R h0 W Q ws Ts Li h cells slots pc Ls (.int x :: st) := by
  intro p l e s m args below meth c T locs ho
  obtain ⟨s₂, o, h1, r2⟩ := k p l e s m args below meth c T locs ho
  obtain ⟨vm0, k0, X, hx, eT, a2, a3, a4, a5, a6, a7, a8, a9, a10, hc, r⟩ := ho
  subst hp
  exact ⟨s₂, o, X.lookupswitchMiss hx (g := mkF m pc Ls (.int x :: st)) rfl rfl (hb hc hd) hso hf ho1 _ h1, r2⟩
theorem Walk.tswIn {x : Int32} {dflt low high off : Int} {offs : Array Int} {len : Nat} (hd : decode B pc = .ok (.tableswitch dflt low high offs, len)) (hin : ¬ (x.toInt < low ∨ x.toInt > high)) (hoff : offs[(x.toInt - low).toNat]? = some off)
    (k : Walk Z own nm rt B ml R h0 W Q ws Ts Li h cells slots pc' Ls st) (ho1 : 0 ≤ (pc : Int) + off := by decide) (hp : ((pc : Int) + off).toNat = pc' := by rfl) : Walk Z own nm rt B ml R h0 W Q ws Ts Li h cells slots pc Ls (.int x :: st) :=
  Walk.lift (fun _ _ _ _ _ _ _ h hx hc r => XS.tswIn h hx rfl (pc0 := pc) (pc' := pc') rfl (hb hc hd) rfl hin hoff ho1 hp r) k
/-- a String constant's load that nobody has made since the law's start: its text is known -/
theorem Walk.ldcNew {index : Nat} {text : String} {Tl : List String} (w : (Cond.stringLink own index text).before a0 Z = true) (wS : ∀ a ∈ Bundle.stringAtoms, a.before a0 Z = true) (hh : Jvm.Lit.constHeld Z own index) (hcw : Jvm.Lit.compactW.before a0 Z = true) (hTs : Ts = some Tl) (hnot : text ∉ Tl) (hfresh : ∀ y, ws y → h0.size ≤ y.base)
    {vs : List Value} {z : Int32} (ht : (∀ c ∈ text.toList, c.toNat < 256) ∧ text.toList.map (fun c => Value.int (Jvm.Lit.byteI c.toNat.toUInt16)) = vs) (hz : ¬ z < 0) (hl : z.toNatClampNeg = vs.length) (hd : decode B pc = .ok (.ldc index, 2)) {n : Nat} (hn : 4 * text.toList.length ≤ n) (hbig : n ≤ 536870912) (hc1 : cells + 2 ≤ R.cells) (hl1 : slots + (n + 4) ≤ R.slots)
    (k : ∀ h' a b kb, Kq h h' noW → Exa Z h' a "java/lang/String" → Fld Z h' a "java/lang/String" "coder" "B" (.int 0) → Fld Z h' a "java/lang/String" "value" "[B" (.ref b) → Arv Z h' b kb .byte z vs (.int 0) → Walk Z own nm rt B ml R h0 W Q ws (some (text :: Tl)) ((own, index, a) :: Li) h' (cells + 2) (slots + (n + 4)) pc' Ls (.ref a :: st)) (hp : pc + 2 = pc' := by rfl) :
    Walk Z own nm rt B ml R h0 W Q ws Ts Li h cells slots pc Ls st := by
  intro p l e s m args below meth c T locs ho
  obtain ⟨vm0, k0, X, hx, eT, a2, a3, a4, a5, a6, a7, a8, a9, a10, hc, r⟩ := ho
  subst hp hTs
  have X1 : Stand p l e R ((s.setVm vm0).setVm vm0) m args below meth c T locs cells slots := X
  obtain ⟨a, T', h', k1, b, kb, X', e', E', S', hk1, hZ', hown', f1, f2, f3, f4, -, -, I', L', stp⟩ := ldcSVL X1 hx a4 a5 w wS eT (k0 := 0) ((State.WarmedH.refl (s.setVm vm0)).since _) (Nat.zero_le _) (fun y hy => by show s.heap.size ≤ _; rw [a9]; exact hfresh _ (a8 y hy)) (fun b cl q => a10.2 b cl q) (a6.1 _ rfl) hnot hh hcw ht hz hl (g := mkF m pc Ls st) rfl (hb hc hd) hn hbig hc1 hl1
  obtain ⟨s₂, o, h1, r2⟩ := k h' a b kb (Kq.of_ext E') f1 f2 f3 f4 p l e s m args below meth c T' locs ⟨T'.vm, h'.size, X', hx, e', a2.trans ⟨S'.1, fun j q hj hq => ⟨(S'.2 j q hj hq).1, Nat.lt_of_lt_of_le (S'.2 j q hj hq).2 hk1⟩⟩ (Nat.le_trans a3 E'.1), Nat.le_refl _, hZ', hown', ⟨fun T hT => by cases hT; exact I', fun hT => (by cases hT), fun q hq => (List.mem_cons.mp hq).elim (fun u => by subst u; exact L') (fun u => State.resolvedAt?_warmed39 (s := s.setVm vm0) S'.1 (a6.2.2 q u))⟩, a7, a8, a9, a10, hc, r⟩
  exact ⟨s₂, o, stp _ h1, r2⟩
/-- .. of an entry that is known to be resolved -/
theorem Walk.ldcAgain {index : Nat} {text : String} {a : Addr} (w : (Cond.stringLink own index text).before a0 Z = true) (hLi : (own, index, a) ∈ Li) (hd : decode B pc = .ok (.ldc index, 2)) (k : Walk Z own nm rt B ml R h0 W Q ws Ts Li h cells slots pc' Ls (.ref a :: st)) (hp : pc + 2 = pc' := by rfl) : Walk Z own nm rt B ml R h0 W Q ws Ts Li h cells slots pc Ls st := by
  intro p l e s m args below meth c T locs ho
  obtain ⟨s₂, o, h1, r2⟩ := k p l e s m args below meth c T locs ho
  obtain ⟨vm0, k0, X, hx, eT, a2, a3, a4, a5, a6, a7, a8, a9, a10, hc, r⟩ := ho
  subst hp
  exact ⟨s₂, o, RoadKit.ldcAgain X hx a4 a5 w (a6.2.2 _ hLi) (g := mkF m pc Ls st) rfl (hb hc hd) _ h1, r2⟩
/-! ### ends -/
theorem ReturnedEndW.mono {s t : State} {o : Outcome} {L : List Loc} {k n k' n' : Nat} (hE : ReturnedEndW s o t L k n) (hk : k ≤ k') (hn : n ≤ n') : ReturnedEndW s o t L k' n' := ⟨hE.1, hE.2.1, hE.2.2.1, hE.2.2.2.mono hk hn⟩
theorem Walk.leave {v : Option Value} (hv : rt = none → v = none) (hq : ∀ y, ws y → Fw h0 W y) (hc1 : cells ≤ R.cells) (hl1 : slots ≤ R.slots) (q : Q v h Ts Li)
    (f : ∀ (p : Program) (l : Launch) (e : Env) (s : State) (m : MethodId) (args : Array Value) (below : List Frame) (meth : Method) (c : Code) (T : State) (locs : List Loc) (fs : List Frame), Stand p l e R s m args below meth c T locs cells slots → p.tables.exec = Jvm.exec → c.code = B → meth.sig.returnType = rt →
      (∀ (f : JFrame) (acts : List Action), f.method = m → f.locked = none → f.entered = [] → (doReturn e (T.setTop f) acts v).1 = T.setFrames fs) → Steps p.tables e below (T.setTop (mkF m pc Ls st)) (T.setFrames fs)) :
    Walk Z own nm rt B ml R h0 W Q ws Ts Li h cells slots pc Ls st := by
  intro p l e s m args below meth c T locs ho
  obtain ⟨vm0, k0, X, hx, eT, a2, a3, a4, a5, a6, a7, a8, a9, a10, hc, b1, b2, b3, b4⟩ := ho
  obtain ⟨fs, hr, hrun, hended, hE⟩ := X.leaveW a2 (eT ▸ a3) (v := v) (fun q => hv (b3.symm.trans q)) b4
  exact ⟨_, _, f p l e _ m args below meth c T locs fs X hx hc b3 hr, hrun, hended, v, locs, Ts, Li, rfl, eT ▸ q, LS.warm (s := s) a6 X.warmed, a7, fun y hy => hq _ (a8 y hy), ReturnedEndW.mono hE hc1 hl1⟩
theorem Walk.ret (hd : decode B pc = .ok (.return_, 1)) (hrt : rt = none) (q : Q none h Ts Li) (hq : ∀ y, ws y → Fw h0 W y) (hc1 : cells ≤ R.cells) (hl1 : slots ≤ R.slots) : Walk Z own nm rt B ml R h0 W Q ws Ts Li h cells slots pc Ls [] :=
  Walk.leave (fun _ => rfl) hq hc1 hl1 q fun _ _ _ _ _ _ _ _ _ _ _ _ X hx hc b hr => X.returnOut hx (b.trans hrt) (hb hc hd) hr
theorem Walk.lret {x : Int64} (hd : decode B pc = .ok (.lreturn, 1)) (hrt : rt = some .long) (q : Q (some (.long x)) h Ts Li) (hq : ∀ y, ws y → Fw h0 W y) (hc1 : cells ≤ R.cells) (hl1 : slots ≤ R.slots) : Walk Z own nm rt B ml R h0 W Q ws Ts Li h cells slots pc Ls [.long x] :=
  Walk.leave (fun z => by rw [hrt] at z; cases z) hq hc1 hl1 q fun _ _ _ _ _ _ _ _ _ _ _ _ X hx hc b hr => X.lreturnOut hx (b.trans hrt) (hb hc hd) hr
theorem Walk.nret {x : Int32} {t : FieldType} (hd : decode B pc = .ok (.ireturn, 1)) (hrt : rt = some t) (ht : t = .boolean ∨ t = .byte ∨ t = .char ∨ t = .short) (q : Q (some (.int (nar t x))) h Ts Li) (hq : ∀ y, ws y → Fw h0 W y) (hc1 : cells ≤ R.cells) (hl1 : slots ≤ R.slots) : Walk Z own nm rt B ml R h0 W Q ws Ts Li h cells slots pc Ls (.int x :: st) :=
  Walk.leave (fun z => by rw [hrt] at z; cases z) hq hc1 hl1 q fun _ _ _ _ _ _ _ _ _ _ _ _ X hx hc b hr => retN X hx (b.trans hrt) ht (hb hc hd) hr
theorem Walk.iret {x : Int32} (hd : decode B pc = .ok (.ireturn, 1)) (hrt : rt = some .int) (q : Q (some (.int x)) h Ts Li) (hq : ∀ y, ws y → Fw h0 W y) (hc1 : cells ≤ R.cells) (hl1 : slots ≤ R.slots) : Walk Z own nm rt B ml R h0 W Q ws Ts Li h cells slots pc Ls (.int x :: st) :=
  Walk.leave (fun z => by rw [hrt] at z; cases z) hq hc1 hl1 q fun _ _ _ _ _ _ _ _ _ _ _ _ X hx hc b hr => retI X hx (b.trans hrt) (hb hc hd) hr
theorem Walk.aret {v : Value} {t : FieldType} (hd : decode B pc = .ok (.areturn, 1)) (hrt : rt = some t) (ht : t.isReference = true) (hv : v.isRef = true) (q : Q (some v) h Ts Li) (hq : ∀ y, ws y → Fw h0 W y) (hc1 : cells ≤ R.cells) (hl1 : slots ≤ R.slots) : Walk Z own nm rt B ml R h0 W Q ws Ts Li h cells slots pc Ls (v :: st) :=
  Walk.leave (fun z => by rw [hrt] at z; cases z) hq hc1 hl1 q fun _ _ _ _ _ _ _ _ _ _ _ _ X hx hc b hr => retR X hx (b.trans hrt) (by cases v <;> first | (cases hv; done) | (cases t <;> first | rfl | (cases ht; done))) ht hv (hb hc hd) hr
theorem Av.arv {a : Addr} {ty : FieldType} {n : Nat} {f : Nat → Value} (F : Av Z h a ty n f) {z : Int32} (hz : ¬ z < 0) (hzn : z.toNatClampNeg = n) {vs : List Value} {d : Value} (hv : ∀ i, i < n → vs.getD i d = f i) (hf : ∀ i, i < n → fits ty (f i) = true) : ∃ k, Arv Z h a k ty z vs d := by
  obtain ⟨c, A, r1, r2, r3⟩ := F
  exact ⟨c.cls, c, A, rfl, by rw [r1, hzn], hz, fun i hi => by rw [hv i (r1 ▸ hi)]; exact r3 i (r1 ▸ hi), fun i hi => by rw [hv i (r1 ▸ hi)]; exact hf i (r1 ▸ hi)⟩
theorem refNar {v : Value} {t : FieldType} (hv : v.isRef = true) (ht : t.isReference = true) : narrow t v = v := by cases v <;> first | (cases hv; done) | (cases t <;> first | rfl | (cases ht; done))
theorem refFit {v : Value} {t : FieldType} (hv : v.isRef = true) (ht : t.isReference = true) : fits t v = true := by cases v <;> first | (cases hv; done) | (cases t <;> first | rfl | (cases ht; done))
theorem cat_i (x : Int32) : (Value.int x).category = 1 := rfl
theorem cat_j (x : Int64) : (Value.long x).category = 2 := rfl
theorem cat_r (x : Addr) : (Value.ref x).category = 1 := rfl
theorem cat_n : Value.null.category = 1 := rfl
theorem stV {L L' : Array Slot} {i : Nat} {v : Value} {o : Slot} (hold : L[i]? = some o) (ho : o = .unset ∨ ∃ w, o = .val w ∧ w.category = 1) (hv : v.category = 1) (e : L.setIfInBounds i (.val v) = L') : storeLocals L i v = some L' := e ▸ XS.store1 hold ho hv
end W
end Jvm.Wk
namespace Jvm.Wk
theorem n32_toInt {i : Nat} (h : i < 2147483648) : (Int32.ofNat i).toInt = i := Int32.toInt_ofNat_small h
theorem n32_lt {i n : Nat} (hi : i < 2147483648) (hn : n < 2147483648) : (Int32.ofNat i < Int32.ofNat n) ↔ i < n := by
  rw [Int32.lt_iff_toInt_lt, n32_toInt hi, n32_toInt hn]; omega
theorem n32_succ (i : Nat) : Int32.ofNat i + 1 = Int32.ofNat (i + 1) := by
  apply Int32.toBitVec_inj.mp
  show BitVec.ofNat 32 i + 1#32 = BitVec.ofNat 32 (i + 1)
  rw [BitVec.ofNat_add]
theorem n32_nn {i : Nat} (h : i < 2147483648) : ¬ Int32.ofNat i < 0 := by
  rw [Int32.lt_iff_toInt_lt, n32_toInt h]; show ¬ ((i : Int) < 0); omega
theorem n32_nat {i : Nat} (h : i < 2147483648) : (Int32.ofNat i).toNatClampNeg = i := by
  show (Int32.ofNat i).toInt.toNat = i
  rw [n32_toInt h]; rfl
theorem n32_inj {i j : Nat} (hi : i < 2147483648) (hj : j < 2147483648) (e : Int32.ofNat i = Int32.ofNat j) : i = j := by
  have := congrArg Int32.toInt e
  rw [n32_toInt hi, n32_toInt hj] at this; omega
theorem shr0 (x : Int32) : x >>> ((0 : Int32) &&& 31) = x := by
  apply Int32.toInt_inj.mp
  rw [Jvm.RoadKit.c_ishr x 0 0 rfl]; simp
end Jvm.Wk
namespace Jvm.Wk
open Jvm Jvm.ClassFile Sem Op Lib Jvm.Free Jvm.Stand Jvm.LawKit Jvm.RoadKit
section W
variable {Z : State} {own nm : String} {rt : Option FieldType} {B : ByteArray} {ml : Nat} {R : Room} {h0 : Heap} {W : Loc → Prop} {Q : QT} {ws : Loc → Prop} {Ts : TsT} {Li : LiT} {h : Heap} {cells slots pc pc' : Nat} {Ls Ls' : Array Slot} {st st' : List Value} {a0 : Array Value}
/-- a private method, called by invokevirtual; y': another method of its class, known to be no interface's -/
theorem Walk.callP {index : Nat} {C : String} {y y' : MethodName} {bytes : ByteArray} {maxL : Nat} {ret : Option FieldType} {Wd : Nat} {a : Addr} {as rest : List Value} {k n : Nat} {V : Loc → Prop} {P : QT}
    (wl : (Cond.methodLink own index y).before a0 Z = true) (wim : (Cond.instanceMethod y).before a0 Z = true) (wp : (Cond.privateMethod y).before a0 Z = true) (wc : (Cond.code y bytes maxL ret).before a0 Z = true) (wf : (Cond.selects y'.cls y' y').before a0 Z = true) (wim' : (Cond.instanceMethod y').before a0 Z = true) (hcl : y'.cls = y.cls) (Ex : Exa Z h a C) (hP : Pay Z y R 3 Wd (.ref a :: as) h Ts Li k n V P)
    (hlen : ∀ sig, parseMethodDescriptor y.desc = some sig → as.length = sig.parameters.length) (hd : decode B pc = .ok (.invokevirtual index, 3)) (hst : st = as.reverse ++ .ref a :: rest) (hW : (rest.map fun v => v.category).sum ≤ Wd) (hsz : Ls.size = ml) (hc1 : cells + k ≤ R.cells) (hl1 : slots + n ≤ R.slots) (hv : h0.size ≤ h.size → ∀ y, Fw h V y → ws y)
    (kk : ∀ v h' Ts' Li', P v h' Ts' Li' → Kq h h' V → Walk Z own nm rt B ml R h0 W Q ws Ts' Li' h' (cells + k) (slots + n) pc' Ls (v.toList ++ rest)) (hy : y.cls ≠ "java/lang/invoke/MethodHandle" ∧ y.cls ≠ "java/lang/invoke/VarHandle" := by decide) (hp : pc + 3 = pc' := by rfl) :
    Walk Z own nm rt B ml R h0 W Q ws Ts Li h cells slots pc Ls st := by
  refine Walk.old fun E => ?_
  intro p l e s m args below meth c T locs ho
  obtain ⟨vm0, k0, X, hx, eT, a2, a3, a4, a5, a6, a7, a8, a9, a10, hc, b1, r⟩ := ho
  obtain ⟨cell, hcell, hobj⟩ := Ex.cell
  obtain ⟨mk, methM, hnamed, hmethM, hstM, habM⟩ := Cond.instanceMethod_spec (mvT (args := args) (s := s.setVm vm0) a4 wim)
  obtain ⟨methM', cM, hmethM', -, -, -, -, -, -, hsigM⟩ := Cond.code_spec hnamed (mvT (args := args) (s := s.setVm vm0) a4 wc)
  cases hmethM.symm.trans hmethM'
  obtain ⟨mk', -, hnamed', -, -, -⟩ := Cond.instanceMethod_spec (mvT (args := args) (s := s.setVm vm0) a4 wim')
  obtain ⟨kP, hkP, hkPi⟩ := notFace_of_selects (args := #[]) (mvT (s := s.setVm vm0) a4 wf) mk' hnamed'
  have hcc : mk'.cls = mk.cls := Option.some.inj ((findClass_of_methodNamed hnamed').symm.trans (hcl ▸ findClass_of_methodNamed hnamed))
  rw [hcc] at hkP
  have hselP : selectMethod e.platform (s.setVm vm0).vm cell.cls mk = .method mk := selectMethod_private hmethM (Cond.privateMethod_at (mvP (args := args) (s := s.setVm vm0) a4 wp) mk methM hnamed hmethM)
  obtain ⟨vm₁, X₁, hstep₁⟩ := X.invokevirtual hx a5 (mvT a4 wl) hnamed hmethM hstM hkP hkPi hy (a := a) (cell := cell) (by rw [eT]; exact hcell) hobj hselP hmethM habM hkP hkPi (g := mkF m pc Ls st) rfl (argsL := as) (rest := rest) (hlen _ hsigM) hst (hb hc hd)
  obtain ⟨v, B', X', hS, hg, ⟨L, Ts', Li', q1, q2, q3, q4, q5, e1, e2, e3⟩, stp⟩ := hP l p e below _ args a4 a6 E m meth c ⟨T.setVm vm₁, locs, cells, slots⟩ (mkF m pc Ls rest) (.invokevirtual index) mk (.ref a :: as).toArray X₁ rfl (hsz.trans b1.symm) (hb hc hd) (by show 2 * 0 + (rest.map fun v => v.category).sum ≤ _; omega) (X₁.named hnamed) ⟨rfl, eT, hc1, hl1⟩
  subst hp
  obtain ⟨s₂, o, h1, r2⟩ := kk v _ Ts' Li' q1 q5 p l e s m args below meth c B'.U _ (On.after (T := T) (k := k) (n := n) hx eT a2 a3 a4 a5 a7 a8 ⟨a9, a10, hc, b1, r⟩ (hv (by rw [← a9, ← eT]; exact X.same.2.1)) X' hS hg q2 q3 q4 e1 e2 e3)
  exact ⟨s₂, o, (hstep₁ _ fun acts => by rw [doInvoke_state]; exact Steps.refl _).trans (stp.trans h1), r2⟩
/-- System.arraycopy into an array made since the frame's start -/
theorem Walk.cpy {index : Nat} {a b : Addr} {k k' : ClassId} {ty ty' : FieldType} {z z' sp dp nn : Int32} {vs vd us : List Value} {dv dd : Value}
    (w1 : (Cond.methodLink own index Jvm.Stand.acN).before a0 Z = true) (w2 : (Cond.native Jvm.Stand.acN).before a0 Z = true) (w3 : (Cond.static Jvm.Stand.acN).before a0 Z = true) (w4 : (Cond.initialized "java/lang/System").before a0 Z = true) (A : Arv Z h a k ty z vs dv) (B1 : Arv Z h b k' ty' z' vd dd) (hty : (ty = ty' ∧ refKind ty = false) ∨ (refKind ty = true ∧ refKind ty' = true ∧ StoL Z h b us))
    (i1 : ¬ sp < 0) (i2 : ¬ dp < 0) (i3 : ¬ nn < 0) (i4 : sp.toNatClampNeg + nn.toNatClampNeg ≤ z.toNatClampNeg) (i5 : dp.toNatClampNeg + nn.toNatClampNeg ≤ z'.toNatClampNeg) (hus : us = (List.range nn.toNatClampNeg).map fun i => vs.getD (sp.toNatClampNeg + i) dv) (hl : dp.toNatClampNeg + nn.toNatClampNeg ≤ vd.length)
    (hd : decode B pc = .ok (.invokestatic index, 3)) (hst : st = .int nn :: .int dp :: .ref b :: .int sp :: .ref a :: st') (hsz : Ls.size = ml) {Wd : Nat} (hW : (st'.map fun v => v.category).sum ≤ Wd) (hfr : 1 ≤ R.frames) (hlo : Wd + (nativeFrameWords "java/lang/System" "arraycopy" 5 + 11) ≤ R.locals) (gb : h0.size ≤ b) (q1 : ∀ y, ws y → h0.size ≤ y.base) (q2 : ∀ y : Loc, h0.size ≤ y.base → ws y)
    (kk : ∀ h', Kq h h' (fun y => y.base = b) → Arv Z h' b k' ty' z' (vd.take dp.toNatClampNeg ++ us ++ vd.drop (dp.toNatClampNeg + nn.toNatClampNeg)) dd → Walk Z own nm rt B ml R h0 W Q ws Ts Li h' cells slots pc' Ls st') (hp : pc + 3 = pc' := by rfl) : Walk Z own nm rt B ml R h0 W Q ws Ts Li h cells slots pc Ls st := by
  intro p l e s m args below meth c T locs ho
  obtain ⟨vm0, k0, X, hx, eT, a2, a3, a4, a5, a6, a7, a8, a9, a10, hc, b1, r⟩ := ho
  obtain ⟨T', h', L, X', e', N', K', B', stp⟩ := cpA X hx a4 a5 w1 w2 w3 w4 eT A B1 hty i1 i2 i3 i4 i5 hus hl (n0 := h0.size) (fun y hy => q1 y (a8 y hy)) gb (g := mkF m pc Ls st) rfl (hsz.trans b1.symm) hst (hb hc hd) hfr (W := Wd) (by show 2 * 0 + _ ≤ _; omega) hlo
  subst hp
  have Kk : Kq h h' (fun y => y.base = b) := ⟨K'.1, fun a c hc => by
    by_cases e : a = b
    · obtain ⟨c', r1, r2, r3, r4⟩ := K'.2.2 a c hc
      exact ⟨c', r1, r2, r3, r4, fun i hi => absurd e hi⟩
    · exact ⟨c, K'.2.1 a c hc (ninS e nin0), rfl, rfl, rfl, fun _ _ => rfl⟩⟩
  obtain ⟨s₂, o, h1, r2⟩ := kk h' Kk B' p l e s m args below meth c T' L ⟨vm0, k0, X', hx, e', a2, Nat.le_trans a3 Kk.1, a4, a5, a6, fun y hy => Nat.le_trans (by rw [← a9]; exact a10.1) (N' y hy), fun y hy => q2 y (N' y hy), a9, a10, hc, b1, r⟩
  exact ⟨s₂, o, stp _ h1, r2⟩
end W
end Jvm.Wk
namespace Jvm.Pilot.@@N@@
open Jvm Jvm.ClassFile Sem Op Lib Jvm.Free Jvm.Stand Jvm.LawKit Jvm.RoadKit Bundle Jvm.Pilot.@@N@@.Jvm.D Jvm.Wk
theorem wd0 {a0 : Array Value} {Z : State} (hw : ∀ d ∈ tables_1, d.before a0 Z = true) : (Jvm.Cond.constant "com/example/indexwerk/indexwerk/WeightEqualAmongPinLaw" (7 : Nat) (2147483647 : Int32)).before a0 Z = true := hw _ (List.mem_of_getElem? (i := 0) rfl)
theorem wd1 {a0 : Array Value} {Z : State} (hw : ∀ d ∈ tables_1, d.before a0 Z = true) : (Jvm.Cond.methodLink "com/example/indexwerk/indexwerk/WeightEqualAmongPinLaw" (8 : Nat) ({ cls := "java/lang/Math", name := "max", desc := "(II)I" } : Jvm.MethodName)).before a0 Z = true := hw _ (List.mem_of_getElem? (i := 1) rfl)
theorem wd2 {a0 : Array Value} {Z : State} (hw : ∀ d ∈ tables_1, d.before a0 Z = true) : (Jvm.Cond.static ({ cls := "java/lang/Math", name := "max", desc := "(II)I" } : Jvm.MethodName)).before a0 Z = true := hw _ (List.mem_of_getElem? (i := 2) rfl)
theorem wd3 {a0 : Array Value} {Z : State} (hw : ∀ d ∈ tables_1, d.before a0 Z = true) : (Jvm.Cond.initialized "java/lang/Math").before a0 Z = true := hw _ (List.mem_of_getElem? (i := 3) rfl)
theorem wd4 {a0 : Array Value} {Z : State} (hw : ∀ d ∈ tables_1, d.before a0 Z = true) : (Jvm.Cond.code ({ cls := "java/lang/Math", name := "max", desc := "(II)I" } : Jvm.MethodName) jdk_29_method_65_code (2 : Nat) (Option.some Jvm.ClassFile.FieldType.int)).before a0 Z = true := hw _ (List.mem_of_getElem? (i := 4) rfl)
theorem wd5 {a0 : Array Value} {Z : State} (hw : ∀ d ∈ tables_1, d.before a0 Z = true) : (Jvm.Cond.constantLong "com/example/indexwerk/indexwerk/WeightEqualAmongPinLaw" (14 : Nat) (10 : Int64)).before a0 Z = true := hw _ (List.mem_of_getElem? (i := 5) rfl)
theorem wd6 {a0 : Array Value} {Z : State} (hw : ∀ d ∈ tables_1, d.before a0 Z = true) : (Jvm.Cond.methodLink "com/example/indexwerk/indexwerk/WeightEqualAmongPinLaw" (18 : Nat) ({ cls := "java/lang/Math", name := "abs", desc := "(J)J" } : Jvm.MethodName)).before a0 Z = true := hw _ (List.mem_of_getElem? (i := 6) rfl)
theorem wd7 {a0 : Array Value} {Z : State} (hw : ∀ d ∈ tables_1, d.before a0 Z = true) : (Jvm.Cond.static ({ cls := "java/lang/Math", name := "abs", desc := "(J)J" } : Jvm.MethodName)).before a0 Z = true := hw _ (List.mem_of_getElem? (i := 7) rfl)
theorem wd8 {a0 : Array Value} {Z : State} (hw : ∀ d ∈ tables_1, d.before a0 Z = true) : (Jvm.Cond.code ({ cls := "java/lang/Math", name := "abs", desc := "(J)J" } : Jvm.MethodName) jdk_29_method_61_code (2 : Nat) (Option.some Jvm.ClassFile.FieldType.long)).before a0 Z = true := hw _ (List.mem_of_getElem? (i := 8) rfl)
theorem wd9 {a0 : Array Value} {Z : State} (hw : ∀ d ∈ tables_1, d.before a0 Z = true) : (Jvm.Cond.constantLong "com/example/indexwerk/indexwerk/WeightEqualAmongPinLaw" (22 : Nat) (2 : Int64)).before a0 Z = true := hw _ (List.mem_of_getElem? (i := 9) rfl)
theorem wd10 {a0 : Array Value} {Z : State} (hw : ∀ d ∈ tables_1, d.before a0 Z = true) : (Jvm.Cond.methodLink "com/example/indexwerk/indexwerk/WeightEqualAmongPinLaw" (24 : Nat) ({ cls := "com/example/indexwerk/indexwerk/Weight", name := "equalAmong", desc := "(I)Lcom/example/indexwerk/indexwerk/Weight;" } : Jvm.MethodName)).before a0 Z = true := hw _ (List.mem_of_getElem? (i := 10) rfl)
theorem wd11 {a0 : Array Value} {Z : State} (hw : ∀ d ∈ tables_1, d.before a0 Z = true) : (Jvm.Cond.static ({ cls := "com/example/indexwerk/indexwerk/Weight", name := "equalAmong", desc := "(I)Lcom/example/indexwerk/indexwerk/Weight;" } : Jvm.MethodName)).before a0 Z = true := hw _ (List.mem_of_getElem? (i := 11) rfl)
theorem wd12 {a0 : Array Value} {Z : State} (hw : ∀ d ∈ tables_1, d.before a0 Z = true) : (Jvm.Cond.initialized "com/example/indexwerk/indexwerk/Weight").before a0 Z = true := hw _ (List.mem_of_getElem? (i := 12) rfl)
theorem wd13 {a0 : Array Value} {Z : State} (hw : ∀ d ∈ tables_1, d.before a0 Z = true) : (Jvm.Cond.code ({ cls := "com/example/indexwerk/indexwerk/Weight", name := "equalAmong", desc := "(I)Lcom/example/indexwerk/indexwerk/Weight;" } : Jvm.MethodName) prog_8_method_4_code (1 : Nat) (Option.some (Jvm.ClassFile.FieldType.object "com/example/indexwerk/indexwerk/Weight"))).before a0 Z = true := hw _ (List.mem_of_getElem? (i := 13) rfl)
theorem wd14 {a0 : Array Value} {Z : State} (hw : ∀ d ∈ tables_1, d.before a0 Z = true) : (Jvm.Cond.classLink "com/example/indexwerk/indexwerk/Weight" (8 : Nat) "com/example/indexwerk/indexwerk/Weight").before a0 Z = true := hw _ (List.mem_of_getElem? (i := 14) rfl)
theorem wd15 {a0 : Array Value} {Z : State} (hw : ∀ d ∈ tables_1, d.before a0 Z = true) : (Jvm.Cond.instantiable "com/example/indexwerk/indexwerk/Weight" (2 : Nat)).before a0 Z = true := hw _ (List.mem_of_getElem? (i := 15) rfl)
theorem wd16 {a0 : Array Value} {Z : State} (hw : ∀ d ∈ tables_1, d.before a0 Z = true) : (Jvm.Cond.fieldLink "com/example/indexwerk/indexwerk/Weight" (16 : Nat) "java/math/BigDecimal" "ONE" "Ljava/math/BigDecimal;").before a0 Z = true := hw _ (List.mem_of_getElem? (i := 16) rfl)
theorem wd17 {a0 : Array Value} {Z : State} (hw : ∀ d ∈ tables_1, d.before a0 Z = true) : (Jvm.Cond.initialized "java/math/BigDecimal").before a0 Z = true := hw _ (List.mem_of_getElem? (i := 17) rfl)
theorem wd18 {a0 : Array Value} {Z : State} (hw : ∀ d ∈ tables_1, d.before a0 Z = true) : (Jvm.Cond.methodLink "com/example/indexwerk/indexwerk/Weight" (24 : Nat) ({ cls := "java/math/BigDecimal", name := "valueOf", desc := "(J)Ljava/math/BigDecimal;" } : Jvm.MethodName)).before a0 Z = true := hw _ (List.mem_of_getElem? (i := 18) rfl)
theorem wd19 {a0 : Array Value} {Z : State} (hw : ∀ d ∈ tables_1, d.before a0 Z = true) : (Jvm.Cond.static ({ cls := "java/math/BigDecimal", name := "valueOf", desc := "(J)Ljava/math/BigDecimal;" } : Jvm.MethodName)).before a0 Z = true := hw _ (List.mem_of_getElem? (i := 19) rfl)
theorem wd20 {a0 : Array Value} {Z : State} (hw : ∀ d ∈ tables_1, d.before a0 Z = true) : (Jvm.Cond.code ({ cls := "java/math/BigDecimal", name := "valueOf", desc := "(J)Ljava/math/BigDecimal;" } : Jvm.MethodName) jdk_17_method_21_code (2 : Nat) (Option.some (Jvm.ClassFile.FieldType.object "java/math/BigDecimal"))).before a0 Z = true := hw _ (List.mem_of_getElem? (i := 20) rfl)
theorem wd21 {a0 : Array Value} {Z : State} (hw : ∀ d ∈ tables_1, d.before a0 Z = true) : (Jvm.Cond.fieldLink "java/math/BigDecimal" (246 : Nat) "java/math/BigDecimal" "ZERO_THROUGH_TEN" "[Ljava/math/BigDecimal;").before a0 Z = true := hw _ (List.mem_of_getElem? (i := 21) rfl)
theorem wd22 {a0 : Array Value} {Z : State} (hw : ∀ d ∈ tables_1, d.before a0 Z = true) : (Jvm.Cond.methodLink "com/example/indexwerk/indexwerk/Weight" (21 : Nat) ({ cls := "com/example/indexwerk/indexwerk/Weight", name := "<init>", desc := "(Ljava/math/BigDecimal;Ljava/math/BigDecimal;)V" } : Jvm.MethodName)).before a0 Z = true := hw _ (List.mem_of_getElem? (i := 22) rfl)
theorem wd23 {a0 : Array Value} {Z : State} (hw : ∀ d ∈ tables_1, d.before a0 Z = true) : (Jvm.Cond.instanceMethod ({ cls := "com/example/indexwerk/indexwerk/Weight", name := "<init>", desc := "(Ljava/math/BigDecimal;Ljava/math/BigDecimal;)V" } : Jvm.MethodName)).before a0 Z = true := hw _ (List.mem_of_getElem? (i := 23) rfl)
theorem wd24 {a0 : Array Value} {Z : State} (hw : ∀ d ∈ tables_1, d.before a0 Z = true) : (Jvm.Cond.code ({ cls := "com/example/indexwerk/indexwerk/Weight", name := "<init>", desc := "(Ljava/math/BigDecimal;Ljava/math/BigDecimal;)V" } : Jvm.MethodName) prog_8_method_1_code (3 : Nat) (Option.none : Option Jvm.ClassFile.FieldType)).before a0 Z = true := hw _ (List.mem_of_getElem? (i := 24) rfl)
theorem wd25 {a0 : Array Value} {Z : State} (hw : ∀ d ∈ tables_1, d.before a0 Z = true) : (Jvm.Cond.methodLink "com/example/indexwerk/indexwerk/Weight" (1 : Nat) ({ cls := "java/lang/Object", name := "<init>", desc := "()V" } : Jvm.MethodName)).before a0 Z = true := hw _ (List.mem_of_getElem? (i := 25) rfl)
theorem wd26 {a0 : Array Value} {Z : State} (hw : ∀ d ∈ tables_1, d.before a0 Z = true) : (Jvm.Cond.instanceMethod ({ cls := "java/lang/Object", name := "<init>", desc := "()V" } : Jvm.MethodName)).before a0 Z = true := hw _ (List.mem_of_getElem? (i := 26) rfl)
theorem wd27 {a0 : Array Value} {Z : State} (hw : ∀ d ∈ tables_1, d.before a0 Z = true) : (Jvm.Cond.code ({ cls := "java/lang/Object", name := "<init>", desc := "()V" } : Jvm.MethodName) object_method_1_code (1 : Nat) (Option.none : Option Jvm.ClassFile.FieldType)).before a0 Z = true := hw _ (List.mem_of_getElem? (i := 27) rfl)
theorem wd28 {a0 : Array Value} {Z : State} (hw : ∀ d ∈ tables_1, d.before a0 Z = true) : (Jvm.Cond.fieldLink "com/example/indexwerk/indexwerk/Weight" (7 : Nat) "com/example/indexwerk/indexwerk/Weight" "numerator" "Ljava/math/BigDecimal;").before a0 Z = true := hw _ (List.mem_of_getElem? (i := 28) rfl)
theorem wd29 {a0 : Array Value} {Z : State} (hw : ∀ d ∈ tables_1, d.before a0 Z = true) : (Jvm.Cond.laysFinal "com/example/indexwerk/indexwerk/Weight" "com/example/indexwerk/indexwerk/Weight" "numerator" "Ljava/math/BigDecimal;").before a0 Z = true := hw _ (List.mem_of_getElem? (i := 29) rfl)
theorem wd30 {a0 : Array Value} {Z : State} (hw : ∀ d ∈ tables_1, d.before a0 Z = true) : (Jvm.Cond.fieldLink "com/example/indexwerk/indexwerk/Weight" (13 : Nat) "com/example/indexwerk/indexwerk/Weight" "denominator" "Ljava/math/BigDecimal;").before a0 Z = true := hw _ (List.mem_of_getElem? (i := 30) rfl)
theorem wd31 {a0 : Array Value} {Z : State} (hw : ∀ d ∈ tables_1, d.before a0 Z = true) : (Jvm.Cond.laysFinal "com/example/indexwerk/indexwerk/Weight" "com/example/indexwerk/indexwerk/Weight" "denominator" "Ljava/math/BigDecimal;").before a0 Z = true := hw _ (List.mem_of_getElem? (i := 31) rfl)
theorem wd32 {a0 : Array Value} {Z : State} (hw : ∀ d ∈ tables_1, d.before a0 Z = true) : (Jvm.Cond.methodLink "com/example/indexwerk/indexwerk/WeightEqualAmongPinLaw" (30 : Nat) ({ cls := "java/math/BigDecimal", name := "valueOf", desc := "(J)Ljava/math/BigDecimal;" } : Jvm.MethodName)).before a0 Z = true := hw _ (List.mem_of_getElem? (i := 32) rfl)
theorem wd33 {a0 : Array Value} {Z : State} (hw : ∀ d ∈ tables_1, d.before a0 Z = true) : (Jvm.Cond.methodLink "com/example/indexwerk/indexwerk/WeightEqualAmongPinLaw" (36 : Nat) ({ cls := "com/example/indexwerk/indexwerk/Weight", name := "shareCount", desc := "(Ljava/math/BigDecimal;Ljava/math/BigDecimal;I)Ljava/math/BigDecimal;" } : Jvm.MethodName)).before a0 Z = true := hw _ (List.mem_of_getElem? (i := 33) rfl)
theorem wd34 {a0 : Array Value} {Z : State} (hw : ∀ d ∈ tables_1, d.before a0 Z = true) : (Jvm.Cond.declares ({ cls := "com/example/indexwerk/indexwerk/Weight", name := "shareCount", desc := "(Ljava/math/BigDecimal;Ljava/math/BigDecimal;I)Ljava/math/BigDecimal;" } : Jvm.MethodName)).before a0 Z = true := hw _ (List.mem_of_getElem? (i := 34) rfl)
theorem wd35 {a0 : Array Value} {Z : State} (hw : ∀ d ∈ tables_1, d.before a0 Z = true) : (Jvm.Cond.instanceMethod ({ cls := "com/example/indexwerk/indexwerk/Weight", name := "shareCount", desc := "(Ljava/math/BigDecimal;Ljava/math/BigDecimal;I)Ljava/math/BigDecimal;" } : Jvm.MethodName)).before a0 Z = true := hw _ (List.mem_of_getElem? (i := 35) rfl)
theorem wd36 {a0 : Array Value} {Z : State} (hw : ∀ d ∈ tables_1, d.before a0 Z = true) : (Jvm.Cond.selects "com/example/indexwerk/indexwerk/Weight" ({ cls := "com/example/indexwerk/indexwerk/Weight", name := "shareCount", desc := "(Ljava/math/BigDecimal;Ljava/math/BigDecimal;I)Ljava/math/BigDecimal;" } : Jvm.MethodName) ({ cls := "com/example/indexwerk/indexwerk/Weight", name := "shareCount", desc := "(Ljava/math/BigDecimal;Ljava/math/BigDecimal;I)Ljava/math/BigDecimal;" } : Jvm.MethodName)).before a0 Z = true := hw _ (List.mem_of_getElem? (i := 36) rfl)
theorem wd37 {a0 : Array Value} {Z : State} (hw : ∀ d ∈ tables_1, d.before a0 Z = true) : (Jvm.Cond.code ({ cls := "com/example/indexwerk/indexwerk/Weight", name := "shareCount", desc := "(Ljava/math/BigDecimal;Ljava/math/BigDecimal;I)Ljava/math/BigDecimal;" } : Jvm.MethodName) prog_8_method_5_code (4 : Nat) (Option.some (Jvm.ClassFile.FieldType.object "java/math/BigDecimal"))).before a0 Z = true := hw _ (List.mem_of_getElem? (i := 37) rfl)
theorem wd38 {a0 : Array Value} {Z : State} (hw : ∀ d ∈ tables_1, d.before a0 Z = true) : (Jvm.Cond.methodLink "com/example/indexwerk/indexwerk/Weight" (28 : Nat) ({ cls := "java/math/BigDecimal", name := "multiply", desc := "(Ljava/math/BigDecimal;)Ljava/math/BigDecimal;" } : Jvm.MethodName)).before a0 Z = true := hw _ (List.mem_of_getElem? (i := 38) rfl)
theorem wd39 {a0 : Array Value} {Z : State} (hw : ∀ d ∈ tables_1, d.before a0 Z = true) : (Jvm.Cond.declares ({ cls := "java/math/BigDecimal", name := "multiply", desc := "(Ljava/math/BigDecimal;)Ljava/math/BigDecimal;" } : Jvm.MethodName)).before a0 Z = true := hw _ (List.mem_of_getElem? (i := 39) rfl)
theorem wd40 {a0 : Array Value} {Z : State} (hw : ∀ d ∈ tables_1, d.before a0 Z = true) : (Jvm.Cond.instanceMethod ({ cls := "java/math/BigDecimal", name := "multiply", desc := "(Ljava/math/BigDecimal;)Ljava/math/BigDecimal;" } : Jvm.MethodName)).before a0 Z = true := hw _ (List.mem_of_getElem? (i := 40) rfl)
theorem wd41 {a0 : Array Value} {Z : State} (hw : ∀ d ∈ tables_1, d.before a0 Z = true) : (Jvm.Cond.selects "java/math/BigDecimal" ({ cls := "java/math/BigDecimal", name := "multiply", desc := "(Ljava/math/BigDecimal;)Ljava/math/BigDecimal;" } : Jvm.MethodName) ({ cls := "java/math/BigDecimal", name := "multiply", desc := "(Ljava/math/BigDecimal;)Ljava/math/BigDecimal;" } : Jvm.MethodName)).before a0 Z = true := hw _ (List.mem_of_getElem? (i := 41) rfl)
theorem wd42 {a0 : Array Value} {Z : State} (hw : ∀ d ∈ tables_1, d.before a0 Z = true) : (Jvm.Cond.code ({ cls := "java/math/BigDecimal", name := "multiply", desc := "(Ljava/math/BigDecimal;)Ljava/math/BigDecimal;" } : Jvm.MethodName) jdk_17_method_31_code (3 : Nat) (Option.some (Jvm.ClassFile.FieldType.object "java/math/BigDecimal"))).before a0 Z = true := hw _ (List.mem_of_getElem? (i := 42) rfl)
theorem wd43 {a0 : Array Value} {Z : State} (hw : ∀ d ∈ tables_1, d.before a0 Z = true) : (Jvm.Cond.fieldLink "java/math/BigDecimal" (17 : Nat) "java/math/BigDecimal" "scale" "I").before a0 Z = true := hw _ (List.mem_of_getElem? (i := 43) rfl)
theorem wd44 {a0 : Array Value} {Z : State} (hw : ∀ d ∈ tables_1, d.before a0 Z = true) : (Jvm.Cond.laysFinal "java/math/BigDecimal" "java/math/BigDecimal" "scale" "I").before a0 Z = true := hw _ (List.mem_of_getElem? (i := 44) rfl)
theorem wd45 {a0 : Array Value} {Z : State} (hw : ∀ d ∈ tables_1, d.before a0 Z = true) : (Jvm.Cond.methodLink "java/math/BigDecimal" (325 : Nat) ({ cls := "java/math/BigDecimal", name := "checkScale", desc := "(J)I" } : Jvm.MethodName)).before a0 Z = true := hw _ (List.mem_of_getElem? (i := 45) rfl)
theorem wd46 {a0 : Array Value} {Z : State} (hw : ∀ d ∈ tables_1, d.before a0 Z = true) : (Jvm.Cond.instanceMethod ({ cls := "java/math/BigDecimal", name := "checkScale", desc := "(J)I" } : Jvm.MethodName)).before a0 Z = true := hw _ (List.mem_of_getElem? (i := 46) rfl)
theorem wd47 {a0 : Array Value} {Z : State} (hw : ∀ d ∈ tables_1, d.before a0 Z = true) : (Jvm.Cond.privateMethod ({ cls := "java/math/BigDecimal", name := "checkScale", desc := "(J)I" } : Jvm.MethodName)).before a0 Z = true := hw _ (List.mem_of_getElem? (i := 47) rfl)
theorem wd49 {a0 : Array Value} {Z : State} (hw : ∀ d ∈ tables_1, d.before a0 Z = true) : (Jvm.Cond.code ({ cls := "java/math/BigDecimal", name := "checkScale", desc := "(J)I" } : Jvm.MethodName) jdk_17_method_106_code (5 : Nat) (Option.some Jvm.ClassFile.FieldType.int)).before a0 Z = true := hw _ (List.mem_of_getElem? (i := 49) rfl)
theorem wd50 {a0 : Array Value} {Z : State} (hw : ∀ d ∈ tables_1, d.before a0 Z = true) : (Jvm.Cond.fieldLink "java/math/BigDecimal" (24 : Nat) "java/math/BigDecimal" "intCompact" "J").before a0 Z = true := hw _ (List.mem_of_getElem? (i := 50) rfl)
theorem wd51 {a0 : Array Value} {Z : State} (hw : ∀ d ∈ tables_1, d.before a0 Z = true) : (Jvm.Cond.laysFinal "java/math/BigDecimal" "java/math/BigDecimal" "intCompact" "J").before a0 Z = true := hw _ (List.mem_of_getElem? (i := 51) rfl)
theorem wd52 {a0 : Array Value} {Z : State} (hw : ∀ d ∈ tables_1, d.before a0 Z = true) : (Jvm.Cond.constantLong "java/math/BigDecimal" (125 : Nat) (-9223372036854775808 : Int64)).before a0 Z = true := hw _ (List.mem_of_getElem? (i := 52) rfl)
theorem wd53 {a0 : Array Value} {Z : State} (hw : ∀ d ∈ tables_1, d.before a0 Z = true) : (Jvm.Cond.methodLink "java/math/BigDecimal" (342 : Nat) ({ cls := "java/math/BigDecimal", name := "multiply", desc := "(JJI)Ljava/math/BigDecimal;" } : Jvm.MethodName)).before a0 Z = true := hw _ (List.mem_of_getElem? (i := 53) rfl)
theorem wd54 {a0 : Array Value} {Z : State} (hw : ∀ d ∈ tables_1, d.before a0 Z = true) : (Jvm.Cond.static ({ cls := "java/math/BigDecimal", name := "multiply", desc := "(JJI)Ljava/math/BigDecimal;" } : Jvm.MethodName)).before a0 Z = true := hw _ (List.mem_of_getElem? (i := 54) rfl)
theorem wd55 {a0 : Array Value} {Z : State} (hw : ∀ d ∈ tables_1, d.before a0 Z = true) : (Jvm.Cond.code ({ cls := "java/math/BigDecimal", name := "multiply", desc := "(JJI)Ljava/math/BigDecimal;" } : Jvm.MethodName) jdk_17_method_157_code (7 : Nat) (Option.some (Jvm.ClassFile.FieldType.object "java/math/BigDecimal"))).before a0 Z = true := hw _ (List.mem_of_getElem? (i := 55) rfl)
theorem wd56 {a0 : Array Value} {Z : State} (hw : ∀ d ∈ tables_1, d.before a0 Z = true) : (Jvm.Cond.methodLink "java/math/BigDecimal" (1055 : Nat) ({ cls := "java/math/BigDecimal", name := "multiply", desc := "(JJ)J" } : Jvm.MethodName)).before a0 Z = true := hw _ (List.mem_of_getElem? (i := 56) rfl)
theorem wd57 {a0 : Array Value} {Z : State} (hw : ∀ d ∈ tables_1, d.before a0 Z = true) : (Jvm.Cond.static ({ cls := "java/math/BigDecimal", name := "multiply", desc := "(JJ)J" } : Jvm.MethodName)).before a0 Z = true := hw _ (List.mem_of_getElem? (i := 57) rfl)
theorem wd58 {a0 : Array Value} {Z : State} (hw : ∀ d ∈ tables_1, d.before a0 Z = true) : (Jvm.Cond.code ({ cls := "java/math/BigDecimal", name := "multiply", desc := "(JJ)J" } : Jvm.MethodName) jdk_17_method_156_code (10 : Nat) (Option.some Jvm.ClassFile.FieldType.long)).before a0 Z = true := hw _ (List.mem_of_getElem? (i := 58) rfl)
theorem wd59 {a0 : Array Value} {Z : State} (hw : ∀ d ∈ tables_1, d.before a0 Z = true) : (Jvm.Cond.methodLink "java/math/BigDecimal" (440 : Nat) ({ cls := "java/lang/Math", name := "abs", desc := "(J)J" } : Jvm.MethodName)).before a0 Z = true := hw _ (List.mem_of_getElem? (i := 59) rfl)
theorem wd60 {a0 : Array Value} {Z : State} (hw : ∀ d ∈ tables_1, d.before a0 Z = true) : (Jvm.Cond.methodLink "java/math/BigDecimal" (328 : Nat) ({ cls := "java/math/BigDecimal", name := "valueOf", desc := "(JI)Ljava/math/BigDecimal;" } : Jvm.MethodName)).before a0 Z = true := hw _ (List.mem_of_getElem? (i := 60) rfl)
theorem wd61 {a0 : Array Value} {Z : State} (hw : ∀ d ∈ tables_1, d.before a0 Z = true) : (Jvm.Cond.static ({ cls := "java/math/BigDecimal", name := "valueOf", desc := "(JI)Ljava/math/BigDecimal;" } : Jvm.MethodName)).before a0 Z = true := hw _ (List.mem_of_getElem? (i := 61) rfl)
theorem wd62 {a0 : Array Value} {Z : State} (hw : ∀ d ∈ tables_1, d.before a0 Z = true) : (Jvm.Cond.code ({ cls := "java/math/BigDecimal", name := "valueOf", desc := "(JI)Ljava/math/BigDecimal;" } : Jvm.MethodName) jdk_17_method_20_code (3 : Nat) (Option.some (Jvm.ClassFile.FieldType.object "java/math/BigDecimal"))).before a0 Z = true := hw _ (List.mem_of_getElem? (i := 62) rfl)
theorem wd63 {a0 : Array Value} {Z : State} (hw : ∀ d ∈ tables_1, d.before a0 Z = true) : (Jvm.Cond.methodLink "java/math/BigDecimal" (236 : Nat) ({ cls := "java/math/BigDecimal", name := "valueOf", desc := "(J)Ljava/math/BigDecimal;" } : Jvm.MethodName)).before a0 Z = true := hw _ (List.mem_of_getElem? (i := 63) rfl)
theorem wd64 {a0 : Array Value} {Z : State} (hw : ∀ d ∈ tables_1, d.before a0 Z = true) : (Jvm.Cond.fieldLink "com/example/indexwerk/indexwerk/Weight" (32 : Nat) "java/math/RoundingMode" "HALF_UP" "Ljava/math/RoundingMode;").before a0 Z = true := hw _ (List.mem_of_getElem? (i := 64) rfl)
theorem wd66 {a0 : Array Value} {Z : State} (hw : ∀ d ∈ tables_1, d.before a0 Z = true) : (Jvm.Cond.methodLink "com/example/indexwerk/indexwerk/Weight" (38 : Nat) ({ cls := "java/math/BigDecimal", name := "divide", desc := "(Ljava/math/BigDecimal;ILjava/math/RoundingMode;)Ljava/math/BigDecimal;" } : Jvm.MethodName)).before a0 Z = true := hw _ (List.mem_of_getElem? (i := 66) rfl)
theorem wd67 {a0 : Array Value} {Z : State} (hw : ∀ d ∈ tables_1, d.before a0 Z = true) : (Jvm.Cond.declares ({ cls := "java/math/BigDecimal", name := "divide", desc := "(Ljava/math/BigDecimal;ILjava/math/RoundingMode;)Ljava/math/BigDecimal;" } : Jvm.MethodName)).before a0 Z = true := hw _ (List.mem_of_getElem? (i := 67) rfl)
theorem wd68 {a0 : Array Value} {Z : State} (hw : ∀ d ∈ tables_1, d.before a0 Z = true) : (Jvm.Cond.instanceMethod ({ cls := "java/math/BigDecimal", name := "divide", desc := "(Ljava/math/BigDecimal;ILjava/math/RoundingMode;)Ljava/math/BigDecimal;" } : Jvm.MethodName)).before a0 Z = true := hw _ (List.mem_of_getElem? (i := 68) rfl)
theorem wd69 {a0 : Array Value} {Z : State} (hw : ∀ d ∈ tables_1, d.before a0 Z = true) : (Jvm.Cond.selects "java/math/BigDecimal" ({ cls := "java/math/BigDecimal", name := "divide", desc := "(Ljava/math/BigDecimal;ILjava/math/RoundingMode;)Ljava/math/BigDecimal;" } : Jvm.MethodName) ({ cls := "java/math/BigDecimal", name := "divide", desc := "(Ljava/math/BigDecimal;ILjava/math/RoundingMode;)Ljava/math/BigDecimal;" } : Jvm.MethodName)).before a0 Z = true := hw _ (List.mem_of_getElem? (i := 69) rfl)
theorem wd70 {a0 : Array Value} {Z : State} (hw : ∀ d ∈ tables_1, d.before a0 Z = true) : (Jvm.Cond.code ({ cls := "java/math/BigDecimal", name := "divide", desc := "(Ljava/math/BigDecimal;ILjava/math/RoundingMode;)Ljava/math/BigDecimal;" } : Jvm.MethodName) jdk_17_method_34_code (4 : Nat) (Option.some (Jvm.ClassFile.FieldType.object "java/math/BigDecimal"))).before a0 Z = true := hw _ (List.mem_of_getElem? (i := 70) rfl)
theorem wd71 {a0 : Array Value} {Z : State} (hw : ∀ d ∈ tables_1, d.before a0 Z = true) : (Jvm.Cond.fieldLink "java/math/BigDecimal" (103 : Nat) "java/math/RoundingMode" "oldMode" "I").before a0 Z = true := hw _ (List.mem_of_getElem? (i := 71) rfl)
theorem wd73 {a0 : Array Value} {Z : State} (hw : ∀ d ∈ tables_1, d.before a0 Z = true) : (Jvm.Cond.methodLink "java/math/BigDecimal" (381 : Nat) ({ cls := "java/math/BigDecimal", name := "divide", desc := "(Ljava/math/BigDecimal;II)Ljava/math/BigDecimal;" } : Jvm.MethodName)).before a0 Z = true := hw _ (List.mem_of_getElem? (i := 73) rfl)
theorem wd74 {a0 : Array Value} {Z : State} (hw : ∀ d ∈ tables_1, d.before a0 Z = true) : (Jvm.Cond.declares ({ cls := "java/math/BigDecimal", name := "divide", desc := "(Ljava/math/BigDecimal;II)Ljava/math/BigDecimal;" } : Jvm.MethodName)).before a0 Z = true := hw _ (List.mem_of_getElem? (i := 74) rfl)
theorem wd75 {a0 : Array Value} {Z : State} (hw : ∀ d ∈ tables_1, d.before a0 Z = true) : (Jvm.Cond.instanceMethod ({ cls := "java/math/BigDecimal", name := "divide", desc := "(Ljava/math/BigDecimal;II)Ljava/math/BigDecimal;" } : Jvm.MethodName)).before a0 Z = true := hw _ (List.mem_of_getElem? (i := 75) rfl)
theorem wd76 {a0 : Array Value} {Z : State} (hw : ∀ d ∈ tables_1, d.before a0 Z = true) : (Jvm.Cond.selects "java/math/BigDecimal" ({ cls := "java/math/BigDecimal", name := "divide", desc := "(Ljava/math/BigDecimal;II)Ljava/math/BigDecimal;" } : Jvm.MethodName) ({ cls := "java/math/BigDecimal", name := "divide", desc := "(Ljava/math/BigDecimal;II)Ljava/math/BigDecimal;" } : Jvm.MethodName)).before a0 Z = true := hw _ (List.mem_of_getElem? (i := 76) rfl)
theorem wd77 {a0 : Array Value} {Z : State} (hw : ∀ d ∈ tables_1, d.before a0 Z = true) : (Jvm.Cond.code ({ cls := "java/math/BigDecimal", name := "divide", desc := "(Ljava/math/BigDecimal;II)Ljava/math/BigDecimal;" } : Jvm.MethodName) jdk_17_method_33_code (4 : Nat) (Option.some (Jvm.ClassFile.FieldType.object "java/math/BigDecimal"))).before a0 Z = true := hw _ (List.mem_of_getElem? (i := 77) rfl)
theorem wd78 {a0 : Array Value} {Z : State} (hw : ∀ d ∈ tables_1, d.before a0 Z = true) : (Jvm.Cond.methodLink "java/math/BigDecimal" (368 : Nat) ({ cls := "java/math/BigDecimal", name := "divide", desc := "(JIJIII)Ljava/math/BigDecimal;" } : Jvm.MethodName)).before a0 Z = true := hw _ (List.mem_of_getElem? (i := 78) rfl)
theorem wd79 {a0 : Array Value} {Z : State} (hw : ∀ d ∈ tables_1, d.before a0 Z = true) : (Jvm.Cond.static ({ cls := "java/math/BigDecimal", name := "divide", desc := "(JIJIII)Ljava/math/BigDecimal;" } : Jvm.MethodName)).before a0 Z = true := hw _ (List.mem_of_getElem? (i := 79) rfl)
theorem wd80 {a0 : Array Value} {Z : State} (hw : ∀ d ∈ tables_1, d.before a0 Z = true) : (Jvm.Cond.code ({ cls := "java/math/BigDecimal", name := "divide", desc := "(JIJIII)Ljava/math/BigDecimal;" } : Jvm.MethodName) jdk_17_method_166_code (13 : Nat) (Option.some (Jvm.ClassFile.FieldType.object "java/math/BigDecimal"))).before a0 Z = true := hw _ (List.mem_of_getElem? (i := 80) rfl)
theorem wd81 {a0 : Array Value} {Z : State} (hw : ∀ d ∈ tables_1, d.before a0 Z = true) : (Jvm.Cond.methodLink "java/math/BigDecimal" (994 : Nat) ({ cls := "java/math/BigDecimal", name := "checkScale", desc := "(JJ)I" } : Jvm.MethodName)).before a0 Z = true := hw _ (List.mem_of_getElem? (i := 81) rfl)
theorem wd82 {a0 : Array Value} {Z : State} (hw : ∀ d ∈ tables_1, d.before a0 Z = true) : (Jvm.Cond.static ({ cls := "java/math/BigDecimal", name := "checkScale", desc := "(JJ)I" } : Jvm.MethodName)).before a0 Z = true := hw _ (List.mem_of_getElem? (i := 82) rfl)
theorem wd83 {a0 : Array Value} {Z : State} (hw : ∀ d ∈ tables_1, d.before a0 Z = true) : (Jvm.Cond.code ({ cls := "java/math/BigDecimal", name := "checkScale", desc := "(JJ)I" } : Jvm.MethodName) jdk_17_method_113_code (5 : Nat) (Option.some Jvm.ClassFile.FieldType.int)).before a0 Z = true := hw _ (List.mem_of_getElem? (i := 83) rfl)
theorem wd84 {a0 : Array Value} {Z : State} (hw : ∀ d ∈ tables_1, d.before a0 Z = true) : (Jvm.Cond.fieldLink "java/math/BigDecimal" (95 : Nat) "java/math/BigDecimal" "LONG_TEN_POWERS_TABLE" "[J").before a0 Z = true := hw _ (List.mem_of_getElem? (i := 84) rfl)
theorem wd85 {a0 : Array Value} {Z : State} (hw : ∀ d ∈ tables_1, d.before a0 Z = true) : (Jvm.Cond.methodLink "java/math/BigDecimal" (599 : Nat) ({ cls := "java/math/BigDecimal", name := "longMultiplyPowerTen", desc := "(JI)J" } : Jvm.MethodName)).before a0 Z = true := hw _ (List.mem_of_getElem? (i := 85) rfl)
theorem wd86 {a0 : Array Value} {Z : State} (hw : ∀ d ∈ tables_1, d.before a0 Z = true) : (Jvm.Cond.static ({ cls := "java/math/BigDecimal", name := "longMultiplyPowerTen", desc := "(JI)J" } : Jvm.MethodName)).before a0 Z = true := hw _ (List.mem_of_getElem? (i := 86) rfl)
theorem wd87 {a0 : Array Value} {Z : State} (hw : ∀ d ∈ tables_1, d.before a0 Z = true) : (Jvm.Cond.code ({ cls := "java/math/BigDecimal", name := "longMultiplyPowerTen", desc := "(JI)J" } : Jvm.MethodName) jdk_17_method_97_code (7 : Nat) (Option.some Jvm.ClassFile.FieldType.long)).before a0 Z = true := hw _ (List.mem_of_getElem? (i := 87) rfl)
theorem wd88 {a0 : Array Value} {Z : State} (hw : ∀ d ∈ tables_1, d.before a0 Z = true) : (Jvm.Cond.fieldLink "java/math/BigDecimal" (825 : Nat) "java/math/BigDecimal" "THRESHOLDS_TABLE" "[J").before a0 Z = true := hw _ (List.mem_of_getElem? (i := 88) rfl)
theorem wd89 {a0 : Array Value} {Z : State} (hw : ∀ d ∈ tables_1, d.before a0 Z = true) : (Jvm.Cond.methodLink "java/math/BigDecimal" (606 : Nat) ({ cls := "java/math/BigDecimal", name := "divideAndRound", desc := "(JJIII)Ljava/math/BigDecimal;" } : Jvm.MethodName)).before a0 Z = true := hw _ (List.mem_of_getElem? (i := 89) rfl)
theorem wd90 {a0 : Array Value} {Z : State} (hw : ∀ d ∈ tables_1, d.before a0 Z = true) : (Jvm.Cond.static ({ cls := "java/math/BigDecimal", name := "divideAndRound", desc := "(JJIII)Ljava/math/BigDecimal;" } : Jvm.MethodName)).before a0 Z = true := hw _ (List.mem_of_getElem? (i := 90) rfl)
theorem wd91 {a0 : Array Value} {Z : State} (hw : ∀ d ∈ tables_1, d.before a0 Z = true) : (Jvm.Cond.code ({ cls := "java/math/BigDecimal", name := "divideAndRound", desc := "(JJIII)Ljava/math/BigDecimal;" } : Jvm.MethodName) jdk_17_method_119_code (13 : Nat) (Option.some (Jvm.ClassFile.FieldType.object "java/math/BigDecimal"))).before a0 Z = true := hw _ (List.mem_of_getElem? (i := 91) rfl)
theorem wd92 {a0 : Array Value} {Z : State} (hw : ∀ d ∈ tables_1, d.before a0 Z = true) : (Jvm.Cond.classLink "java/math/BigDecimal" (3 : Nat) "java/math/BigDecimal").before a0 Z = true := hw _ (List.mem_of_getElem? (i := 92) rfl)
theorem wd93 {a0 : Array Value} {Z : State} (hw : ∀ d ∈ tables_1, d.before a0 Z = true) : (Jvm.Cond.instantiable "java/math/BigDecimal" (5 : Nat)).before a0 Z = true := hw _ (List.mem_of_getElem? (i := 93) rfl)
theorem wd94 {a0 : Array Value} {Z : State} (hw : ∀ d ∈ tables_1, d.before a0 Z = true) : (Jvm.Cond.methodLink "java/math/BigDecimal" (243 : Nat) ({ cls := "java/math/BigDecimal", name := "<init>", desc := "(Ljava/math/BigInteger;JII)V" } : Jvm.MethodName)).before a0 Z = true := hw _ (List.mem_of_getElem? (i := 94) rfl)
theorem wd95 {a0 : Array Value} {Z : State} (hw : ∀ d ∈ tables_1, d.before a0 Z = true) : (Jvm.Cond.instanceMethod ({ cls := "java/math/BigDecimal", name := "<init>", desc := "(Ljava/math/BigInteger;JII)V" } : Jvm.MethodName)).before a0 Z = true := hw _ (List.mem_of_getElem? (i := 95) rfl)
theorem wd97 {a0 : Array Value} {Z : State} (hw : ∀ d ∈ tables_1, d.before a0 Z = true) : (Jvm.Cond.code ({ cls := "java/math/BigDecimal", name := "<init>", desc := "(Ljava/math/BigInteger;JII)V" } : Jvm.MethodName) jdk_17_method_1_code (6 : Nat) (Option.none : Option Jvm.ClassFile.FieldType)).before a0 Z = true := hw _ (List.mem_of_getElem? (i := 97) rfl)
theorem wd98 {a0 : Array Value} {Z : State} (hw : ∀ d ∈ tables_1, d.before a0 Z = true) : (Jvm.Cond.methodLink "java/math/BigDecimal" (11 : Nat) ({ cls := "java/lang/Number", name := "<init>", desc := "()V" } : Jvm.MethodName)).before a0 Z = true := hw _ (List.mem_of_getElem? (i := 98) rfl)
theorem wd99 {a0 : Array Value} {Z : State} (hw : ∀ d ∈ tables_1, d.before a0 Z = true) : (Jvm.Cond.instanceMethod ({ cls := "java/lang/Number", name := "<init>", desc := "()V" } : Jvm.MethodName)).before a0 Z = true := hw _ (List.mem_of_getElem? (i := 99) rfl)
theorem wd102 {a0 : Array Value} {Z : State} (hw : ∀ d ∈ tables_1, d.before a0 Z = true) : (Jvm.Cond.initialized "java/lang/Number").before a0 Z = true := hw _ (List.mem_of_getElem? (i := 102) rfl)
theorem wd103 {a0 : Array Value} {Z : State} (hw : ∀ d ∈ tables_1, d.before a0 Z = true) : (Jvm.Cond.code ({ cls := "java/lang/Number", name := "<init>", desc := "()V" } : Jvm.MethodName) jdk_18_method_1_code (1 : Nat) (Option.none : Option Jvm.ClassFile.FieldType)).before a0 Z = true := hw _ (List.mem_of_getElem? (i := 103) rfl)
theorem wd104 {a0 : Array Value} {Z : State} (hw : ∀ d ∈ tables_1, d.before a0 Z = true) : (Jvm.Cond.methodLink "java/lang/Number" (1 : Nat) ({ cls := "java/lang/Object", name := "<init>", desc := "()V" } : Jvm.MethodName)).before a0 Z = true := hw _ (List.mem_of_getElem? (i := 104) rfl)
theorem wd105 {a0 : Array Value} {Z : State} (hw : ∀ d ∈ tables_1, d.before a0 Z = true) : (Jvm.Cond.fieldLink "java/math/BigDecimal" (21 : Nat) "java/math/BigDecimal" "precision" "I").before a0 Z = true := hw _ (List.mem_of_getElem? (i := 105) rfl)
theorem wd106 {a0 : Array Value} {Z : State} (hw : ∀ d ∈ tables_1, d.before a0 Z = true) : (Jvm.Cond.lays "java/math/BigDecimal" "java/math/BigDecimal" "precision" "I").before a0 Z = true := hw _ (List.mem_of_getElem? (i := 106) rfl)
theorem wd107 {a0 : Array Value} {Z : State} (hw : ∀ d ∈ tables_1, d.before a0 Z = true) : (Jvm.Cond.fieldLink "java/math/BigDecimal" (28 : Nat) "java/math/BigDecimal" "intVal" "Ljava/math/BigInteger;").before a0 Z = true := hw _ (List.mem_of_getElem? (i := 107) rfl)
theorem wd108 {a0 : Array Value} {Z : State} (hw : ∀ d ∈ tables_1, d.before a0 Z = true) : (Jvm.Cond.laysFinal "java/math/BigDecimal" "java/math/BigDecimal" "intVal" "Ljava/math/BigInteger;").before a0 Z = true := hw _ (List.mem_of_getElem? (i := 108) rfl)
theorem wd109 {a0 : Array Value} {Z : State} (hw : ∀ d ∈ tables_1, d.before a0 Z = true) : (Jvm.Cond.methodLink "com/example/indexwerk/indexwerk/WeightEqualAmongPinLaw" (40 : Nat) ({ cls := "java/math/BigDecimal", name := "valueOf", desc := "(JI)Ljava/math/BigDecimal;" } : Jvm.MethodName)).before a0 Z = true := hw _ (List.mem_of_getElem? (i := 109) rfl)
theorem wd110 {a0 : Array Value} {Z : State} (hw : ∀ d ∈ tables_1, d.before a0 Z = true) : (Jvm.Cond.methodLink "com/example/indexwerk/indexwerk/WeightEqualAmongPinLaw" (43 : Nat) ({ cls := "java/math/BigDecimal", name := "equals", desc := "(Ljava/lang/Object;)Z" } : Jvm.MethodName)).before a0 Z = true := hw _ (List.mem_of_getElem? (i := 110) rfl)
theorem wd111 {a0 : Array Value} {Z : State} (hw : ∀ d ∈ tables_1, d.before a0 Z = true) : (Jvm.Cond.declares ({ cls := "java/math/BigDecimal", name := "equals", desc := "(Ljava/lang/Object;)Z" } : Jvm.MethodName)).before a0 Z = true := hw _ (List.mem_of_getElem? (i := 111) rfl)
theorem wd112 {a0 : Array Value} {Z : State} (hw : ∀ d ∈ tables_1, d.before a0 Z = true) : (Jvm.Cond.instanceMethod ({ cls := "java/math/BigDecimal", name := "equals", desc := "(Ljava/lang/Object;)Z" } : Jvm.MethodName)).before a0 Z = true := hw _ (List.mem_of_getElem? (i := 112) rfl)
theorem wd113 {a0 : Array Value} {Z : State} (hw : ∀ d ∈ tables_1, d.before a0 Z = true) : (Jvm.Cond.selects "java/math/BigDecimal" ({ cls := "java/math/BigDecimal", name := "equals", desc := "(Ljava/lang/Object;)Z" } : Jvm.MethodName) ({ cls := "java/math/BigDecimal", name := "equals", desc := "(Ljava/lang/Object;)Z" } : Jvm.MethodName)).before a0 Z = true := hw _ (List.mem_of_getElem? (i := 113) rfl)
theorem wd114 {a0 : Array Value} {Z : State} (hw : ∀ d ∈ tables_1, d.before a0 Z = true) : (Jvm.Cond.code ({ cls := "java/math/BigDecimal", name := "equals", desc := "(Ljava/lang/Object;)Z" } : Jvm.MethodName) jdk_17_method_72_code (7 : Nat) (Option.some Jvm.ClassFile.FieldType.boolean)).before a0 Z = true := hw _ (List.mem_of_getElem? (i := 114) rfl)
theorem wd115 {a0 : Array Value} {Z : State} (hw : ∀ d ∈ tables_1, d.before a0 Z = true) : (Jvm.Cond.methodLink "java/math/BigDecimal" (924 : Nat) ({ cls := "java/math/BigDecimal", name := "needIncrement", desc := "(JIIJJ)Z" } : Jvm.MethodName)).before a0 Z = true := hw _ (List.mem_of_getElem? (i := 115) rfl)
theorem wd116 {a0 : Array Value} {Z : State} (hw : ∀ d ∈ tables_1, d.before a0 Z = true) : (Jvm.Cond.static ({ cls := "java/math/BigDecimal", name := "needIncrement", desc := "(JIIJJ)Z" } : Jvm.MethodName)).before a0 Z = true := hw _ (List.mem_of_getElem? (i := 116) rfl)
theorem wd117 {a0 : Array Value} {Z : State} (hw : ∀ d ∈ tables_1, d.before a0 Z = true) : (Jvm.Cond.code ({ cls := "java/math/BigDecimal", name := "needIncrement", desc := "(JIIJJ)Z" } : Jvm.MethodName) jdk_17_method_122_code (9 : Nat) (Option.some Jvm.ClassFile.FieldType.boolean)).before a0 Z = true := hw _ (List.mem_of_getElem? (i := 117) rfl)
theorem wd118 {a0 : Array Value} {Z : State} (hw : ∀ d ∈ tables_1, d.before a0 Z = true) : (Jvm.Cond.fieldLink "java/math/BigDecimal" (311 : Nat) "java/math/BigDecimal" "$assertionsDisabled" "Z").before a0 Z = true := hw _ (List.mem_of_getElem? (i := 118) rfl)
theorem wd119 {a0 : Array Value} {Z : State} (hw : ∀ d ∈ tables_1, d.before a0 Z = true) : (Jvm.Cond.constantLong "java/math/BigDecimal" (933 : Nat) (-4611686018427387904 : Int64)).before a0 Z = true := hw _ (List.mem_of_getElem? (i := 119) rfl)
theorem wd120 {a0 : Array Value} {Z : State} (hw : ∀ d ∈ tables_1, d.before a0 Z = true) : (Jvm.Cond.constantLong "java/math/BigDecimal" (935 : Nat) (4611686018427387903 : Int64)).before a0 Z = true := hw _ (List.mem_of_getElem? (i := 120) rfl)
theorem wd121 {a0 : Array Value} {Z : State} (hw : ∀ d ∈ tables_1, d.before a0 Z = true) : (Jvm.Cond.constantLong "java/math/BigDecimal" (318 : Nat) (2 : Int64)).before a0 Z = true := hw _ (List.mem_of_getElem? (i := 121) rfl)
theorem wd122 {a0 : Array Value} {Z : State} (hw : ∀ d ∈ tables_1, d.before a0 Z = true) : (Jvm.Cond.methodLink "java/math/BigDecimal" (632 : Nat) ({ cls := "java/math/BigDecimal", name := "longCompareMagnitude", desc := "(JJ)I" } : Jvm.MethodName)).before a0 Z = true := hw _ (List.mem_of_getElem? (i := 122) rfl)
theorem wd123 {a0 : Array Value} {Z : State} (hw : ∀ d ∈ tables_1, d.before a0 Z = true) : (Jvm.Cond.static ({ cls := "java/math/BigDecimal", name := "longCompareMagnitude", desc := "(JJ)I" } : Jvm.MethodName)).before a0 Z = true := hw _ (List.mem_of_getElem? (i := 123) rfl)
theorem wd124 {a0 : Array Value} {Z : State} (hw : ∀ d ∈ tables_1, d.before a0 Z = true) : (Jvm.Cond.code ({ cls := "java/math/BigDecimal", name := "longCompareMagnitude", desc := "(JJ)I" } : Jvm.MethodName) jdk_17_method_108_code (4 : Nat) (Option.some Jvm.ClassFile.FieldType.int)).before a0 Z = true := hw _ (List.mem_of_getElem? (i := 124) rfl)
theorem wd125 {a0 : Array Value} {Z : State} (hw : ∀ d ∈ tables_1, d.before a0 Z = true) : (Jvm.Cond.methodLink "java/math/BigDecimal" (881 : Nat) ({ cls := "java/lang/Long", name := "compare", desc := "(JJ)I" } : Jvm.MethodName)).before a0 Z = true := hw _ (List.mem_of_getElem? (i := 125) rfl)
theorem wd126 {a0 : Array Value} {Z : State} (hw : ∀ d ∈ tables_1, d.before a0 Z = true) : (Jvm.Cond.static ({ cls := "java/lang/Long", name := "compare", desc := "(JJ)I" } : Jvm.MethodName)).before a0 Z = true := hw _ (List.mem_of_getElem? (i := 126) rfl)
theorem wd127 {a0 : Array Value} {Z : State} (hw : ∀ d ∈ tables_1, d.before a0 Z = true) : (Jvm.Cond.initialized "java/lang/Long").before a0 Z = true := hw _ (List.mem_of_getElem? (i := 127) rfl)
theorem wd128 {a0 : Array Value} {Z : State} (hw : ∀ d ∈ tables_1, d.before a0 Z = true) : (Jvm.Cond.code ({ cls := "java/lang/Long", name := "compare", desc := "(JJ)I" } : Jvm.MethodName) jdk_35_method_42_code (4 : Nat) (Option.some Jvm.ClassFile.FieldType.int)).before a0 Z = true := hw _ (List.mem_of_getElem? (i := 128) rfl)
theorem wd129 {a0 : Array Value} {Z : State} (hw : ∀ d ∈ tables_1, d.before a0 Z = true) : (Jvm.Cond.methodLink "java/math/BigDecimal" (937 : Nat) ({ cls := "java/math/BigDecimal", name := "commonNeedIncrement", desc := "(IIIZ)Z" } : Jvm.MethodName)).before a0 Z = true := hw _ (List.mem_of_getElem? (i := 129) rfl)
theorem wd130 {a0 : Array Value} {Z : State} (hw : ∀ d ∈ tables_1, d.before a0 Z = true) : (Jvm.Cond.static ({ cls := "java/math/BigDecimal", name := "commonNeedIncrement", desc := "(IIIZ)Z" } : Jvm.MethodName)).before a0 Z = true := hw _ (List.mem_of_getElem? (i := 130) rfl)
theorem wd131 {a0 : Array Value} {Z : State} (hw : ∀ d ∈ tables_1, d.before a0 Z = true) : (Jvm.Cond.code ({ cls := "java/math/BigDecimal", name := "commonNeedIncrement", desc := "(IIIZ)Z" } : Jvm.MethodName) jdk_17_method_121_code (4 : Nat) (Option.some Jvm.ClassFile.FieldType.boolean)).before a0 Z = true := hw _ (List.mem_of_getElem? (i := 131) rfl)
theorem wd132 {a0 : Array Value} {Z : State} (hw : ∀ d ∈ tables_1, d.before a0 Z = true) : (Jvm.Cond.methodLink "java/math/BigDecimal" (239 : Nat) ({ cls := "java/math/BigDecimal", name := "zeroValueOf", desc := "(I)Ljava/math/BigDecimal;" } : Jvm.MethodName)).before a0 Z = true := hw _ (List.mem_of_getElem? (i := 132) rfl)
theorem wd133 {a0 : Array Value} {Z : State} (hw : ∀ d ∈ tables_1, d.before a0 Z = true) : (Jvm.Cond.static ({ cls := "java/math/BigDecimal", name := "zeroValueOf", desc := "(I)Ljava/math/BigDecimal;" } : Jvm.MethodName)).before a0 Z = true := hw _ (List.mem_of_getElem? (i := 133) rfl)
theorem wd134 {a0 : Array Value} {Z : State} (hw : ∀ d ∈ tables_1, d.before a0 Z = true) : (Jvm.Cond.code ({ cls := "java/math/BigDecimal", name := "zeroValueOf", desc := "(I)Ljava/math/BigDecimal;" } : Jvm.MethodName) jdk_17_method_24_code (1 : Nat) (Option.some (Jvm.ClassFile.FieldType.object "java/math/BigDecimal"))).before a0 Z = true := hw _ (List.mem_of_getElem? (i := 134) rfl)
theorem wd135 {a0 : Array Value} {Z : State} (hw : ∀ d ∈ tables_1, d.before a0 Z = true) : (Jvm.Cond.fieldLink "java/math/BigDecimal" (250 : Nat) "java/math/BigDecimal" "ZERO_SCALED_BY" "[Ljava/math/BigDecimal;").before a0 Z = true := hw _ (List.mem_of_getElem? (i := 135) rfl)
theorem wd136 {a0 : Array Value} {Z : State} (hw : ∀ d ∈ tables_1, d.before a0 Z = true) : (Jvm.Cond.constantLong "com/example/indexwerk/indexwerk/WeightEqualAmongPinLaw" (16 : Nat) (100 : Int64)).before a0 Z = true := hw _ (List.mem_of_getElem? (i := 136) rfl)
theorem d_jdk_29_method_65_code_0 : decode jdk_29_method_65_code 0 = .ok (.iload_n 0, 1) := by decide +kernel
theorem d_jdk_29_method_65_code_1 : decode jdk_29_method_65_code 1 = .ok (.iload_n 1, 1) := by decide +kernel
theorem d_jdk_29_method_65_code_2 : decode jdk_29_method_65_code 2 = .ok (.if_icmp .lt 7, 3) := by decide +kernel
theorem d_jdk_29_method_65_code_5 : decode jdk_29_method_65_code 5 = .ok (.iload_n 0, 1) := by decide +kernel
theorem d_jdk_29_method_65_code_6 : decode jdk_29_method_65_code 6 = .ok (.goto 4, 3) := by decide +kernel
theorem d_jdk_29_method_65_code_9 : decode jdk_29_method_65_code 9 = .ok (.iload_n 1, 1) := by decide +kernel
theorem d_jdk_29_method_65_code_10 : decode jdk_29_method_65_code 10 = .ok (.ireturn, 1) := by decide +kernel
theorem d_jdk_29_method_61_code_0 : decode jdk_29_method_61_code 0 = .ok (.lload_n 0, 1) := by decide +kernel
theorem d_jdk_29_method_61_code_1 : decode jdk_29_method_61_code 1 = .ok (.lconst 0, 1) := by decide +kernel
theorem d_jdk_29_method_61_code_2 : decode jdk_29_method_61_code 2 = .ok (.lcmp, 1) := by decide +kernel
theorem d_jdk_29_method_61_code_3 : decode jdk_29_method_61_code 3 = .ok (.ifCond .ge 8, 3) := by decide +kernel
theorem d_jdk_29_method_61_code_6 : decode jdk_29_method_61_code 6 = .ok (.lload_n 0, 1) := by decide +kernel
theorem d_jdk_29_method_61_code_7 : decode jdk_29_method_61_code 7 = .ok (.lneg, 1) := by decide +kernel
theorem d_jdk_29_method_61_code_8 : decode jdk_29_method_61_code 8 = .ok (.goto 4, 3) := by decide +kernel
theorem d_jdk_29_method_61_code_11 : decode jdk_29_method_61_code 11 = .ok (.lload_n 0, 1) := by decide +kernel
theorem d_jdk_29_method_61_code_12 : decode jdk_29_method_61_code 12 = .ok (.lreturn, 1) := by decide +kernel
theorem d_jdk_35_method_42_code_0 : decode jdk_35_method_42_code 0 = .ok (.lload_n 0, 1) := by decide +kernel
theorem d_jdk_35_method_42_code_1 : decode jdk_35_method_42_code 1 = .ok (.lload_n 2, 1) := by decide +kernel
theorem d_jdk_35_method_42_code_2 : decode jdk_35_method_42_code 2 = .ok (.lcmp, 1) := by decide +kernel
theorem d_jdk_35_method_42_code_3 : decode jdk_35_method_42_code 3 = .ok (.ifCond .ge 7, 3) := by decide +kernel
theorem d_jdk_35_method_42_code_6 : decode jdk_35_method_42_code 6 = .ok (.iconst (-1), 1) := by decide +kernel
theorem d_jdk_35_method_42_code_7 : decode jdk_35_method_42_code 7 = .ok (.goto 14, 3) := by decide +kernel
theorem d_jdk_35_method_42_code_10 : decode jdk_35_method_42_code 10 = .ok (.lload_n 0, 1) := by decide +kernel
theorem d_jdk_35_method_42_code_11 : decode jdk_35_method_42_code 11 = .ok (.lload_n 2, 1) := by decide +kernel
theorem d_jdk_35_method_42_code_12 : decode jdk_35_method_42_code 12 = .ok (.lcmp, 1) := by decide +kernel
theorem d_jdk_35_method_42_code_13 : decode jdk_35_method_42_code 13 = .ok (.ifCond .ne 7, 3) := by decide +kernel
theorem d_jdk_35_method_42_code_16 : decode jdk_35_method_42_code 16 = .ok (.iconst 0, 1) := by decide +kernel
theorem d_jdk_35_method_42_code_17 : decode jdk_35_method_42_code 17 = .ok (.goto 4, 3) := by decide +kernel
theorem d_jdk_35_method_42_code_20 : decode jdk_35_method_42_code 20 = .ok (.iconst 1, 1) := by decide +kernel
theorem d_jdk_35_method_42_code_21 : decode jdk_35_method_42_code 21 = .ok (.ireturn, 1) := by decide +kernel
theorem d_jdk_17_method_108_code_0 : decode jdk_17_method_108_code 0 = .ok (.lload_n 0, 1) := by decide +kernel
theorem d_jdk_17_method_108_code_1 : decode jdk_17_method_108_code 1 = .ok (.lconst 0, 1) := by decide +kernel
theorem d_jdk_17_method_108_code_2 : decode jdk_17_method_108_code 2 = .ok (.lcmp, 1) := by decide +kernel
theorem d_jdk_17_method_108_code_3 : decode jdk_17_method_108_code 3 = .ok (.ifCond .ge 6, 3) := by decide +kernel
theorem d_jdk_17_method_108_code_6 : decode jdk_17_method_108_code 6 = .ok (.lload_n 0, 1) := by decide +kernel
theorem d_jdk_17_method_108_code_7 : decode jdk_17_method_108_code 7 = .ok (.lneg, 1) := by decide +kernel
theorem d_jdk_17_method_108_code_8 : decode jdk_17_method_108_code 8 = .ok (.lstore_n 0, 1) := by decide +kernel
theorem d_jdk_17_method_108_code_9 : decode jdk_17_method_108_code 9 = .ok (.lload_n 2, 1) := by decide +kernel
theorem d_jdk_17_method_108_code_10 : decode jdk_17_method_108_code 10 = .ok (.lconst 0, 1) := by decide +kernel
theorem d_jdk_17_method_108_code_11 : decode jdk_17_method_108_code 11 = .ok (.lcmp, 1) := by decide +kernel
theorem d_jdk_17_method_108_code_12 : decode jdk_17_method_108_code 12 = .ok (.ifCond .ge 6, 3) := by decide +kernel
theorem d_jdk_17_method_108_code_18 : decode jdk_17_method_108_code 18 = .ok (.lload_n 0, 1) := by decide +kernel
theorem d_jdk_17_method_108_code_19 : decode jdk_17_method_108_code 19 = .ok (.lload_n 2, 1) := by decide +kernel
theorem d_jdk_17_method_108_code_20 : decode jdk_17_method_108_code 20 = .ok (.invokestatic 881, 3) := by decide +kernel
theorem d_jdk_17_method_108_code_23 : decode jdk_17_method_108_code 23 = .ok (.ireturn, 1) := by decide +kernel
theorem d_jdk_17_method_121_code_0 : decode jdk_17_method_121_code 0 = .ok (.iload_n 0, 1) := by decide +kernel
theorem d_jdk_17_method_121_code_1 : decode jdk_17_method_121_code 1 = .ok (.tableswitch 82 0 7 #[58, 60, 62, 72, 82, 82, 82, 47], 47) := by decide +kernel
theorem d_jdk_17_method_121_code_83 : decode jdk_17_method_121_code 83 = .ok (.getstatic 311, 3) := by decide +kernel
theorem d_jdk_17_method_121_code_86 : decode jdk_17_method_121_code 86 = .ok (.ifCond .ne 45, 3) := by decide +kernel
theorem d_jdk_17_method_121_code_131 : decode jdk_17_method_121_code 131 = .ok (.iload_n 2, 1) := by decide +kernel
theorem d_jdk_17_method_121_code_132 : decode jdk_17_method_121_code 132 = .ok (.ifCond .ge 5, 3) := by decide +kernel
theorem d_jdk_17_method_121_code_135 : decode jdk_17_method_121_code 135 = .ok (.iconst 0, 1) := by decide +kernel
theorem d_jdk_17_method_121_code_136 : decode jdk_17_method_121_code 136 = .ok (.ireturn, 1) := by decide +kernel
theorem d_jdk_17_method_121_code_137 : decode jdk_17_method_121_code 137 = .ok (.iload_n 2, 1) := by decide +kernel
theorem d_jdk_17_method_121_code_138 : decode jdk_17_method_121_code 138 = .ok (.ifCond .le 5, 3) := by decide +kernel
theorem d_jdk_17_method_121_code_141 : decode jdk_17_method_121_code 141 = .ok (.iconst 1, 1) := by decide +kernel
theorem d_jdk_17_method_121_code_142 : decode jdk_17_method_121_code 142 = .ok (.ireturn, 1) := by decide +kernel
theorem d_jdk_17_method_121_code_143 : decode jdk_17_method_121_code 143 = .ok (.getstatic 311, 3) := by decide +kernel
theorem d_jdk_17_method_121_code_146 : decode jdk_17_method_121_code 146 = .ok (.ifCond .ne 15, 3) := by decide +kernel
theorem d_jdk_17_method_121_code_161 : decode jdk_17_method_121_code 161 = .ok (.iload_n 0, 1) := by decide +kernel
theorem d_jdk_17_method_121_code_162 : decode jdk_17_method_121_code 162 = .ok (.tableswitch 38 4 6 #[30, 26, 34], 26) := by decide +kernel
theorem d_jdk_17_method_121_code_192 : decode jdk_17_method_121_code 192 = .ok (.iconst 1, 1) := by decide +kernel
theorem d_jdk_17_method_121_code_193 : decode jdk_17_method_121_code 193 = .ok (.goto 35, 3) := by decide +kernel
theorem d_jdk_17_method_121_code_228 : decode jdk_17_method_121_code 228 = .ok (.ireturn, 1) := by decide +kernel
theorem d_jdk_17_method_122_code_0 : decode jdk_17_method_122_code 0 = .ok (.getstatic 311, 3) := by decide +kernel
theorem d_jdk_17_method_122_code_3 : decode jdk_17_method_122_code 3 = .ok (.ifCond .ne 18, 3) := by decide +kernel
theorem d_jdk_17_method_122_code_21 : decode jdk_17_method_122_code 21 = .ok (.lload 6, 2) := by decide +kernel
theorem d_jdk_17_method_122_code_23 : decode jdk_17_method_122_code 23 = .ok (.ldc2_w 933, 3) := by decide +kernel
theorem d_jdk_17_method_122_code_26 : decode jdk_17_method_122_code 26 = .ok (.lcmp, 1) := by decide +kernel
theorem d_jdk_17_method_122_code_27 : decode jdk_17_method_122_code 27 = .ok (.ifCond .le 12, 3) := by decide +kernel
theorem d_jdk_17_method_122_code_30 : decode jdk_17_method_122_code 30 = .ok (.lload 6, 2) := by decide +kernel
theorem d_jdk_17_method_122_code_32 : decode jdk_17_method_122_code 32 = .ok (.ldc2_w 935, 3) := by decide +kernel
theorem d_jdk_17_method_122_code_35 : decode jdk_17_method_122_code 35 = .ok (.lcmp, 1) := by decide +kernel
theorem d_jdk_17_method_122_code_36 : decode jdk_17_method_122_code 36 = .ok (.ifCond .le 9, 3) := by decide +kernel
theorem d_jdk_17_method_122_code_45 : decode jdk_17_method_122_code 45 = .ok (.ldc2_w 318, 3) := by decide +kernel
theorem d_jdk_17_method_122_code_48 : decode jdk_17_method_122_code 48 = .ok (.lload 6, 2) := by decide +kernel
theorem d_jdk_17_method_122_code_50 : decode jdk_17_method_122_code 50 = .ok (.lmul, 1) := by decide +kernel
theorem d_jdk_17_method_122_code_51 : decode jdk_17_method_122_code 51 = .ok (.lload_n 0, 1) := by decide +kernel
theorem d_jdk_17_method_122_code_52 : decode jdk_17_method_122_code 52 = .ok (.invokestatic 632, 3) := by decide +kernel
theorem d_jdk_17_method_122_code_55 : decode jdk_17_method_122_code 55 = .ok (.istore 8, 2) := by decide +kernel
theorem d_jdk_17_method_122_code_57 : decode jdk_17_method_122_code 57 = .ok (.iload_n 2, 1) := by decide +kernel
theorem d_jdk_17_method_122_code_58 : decode jdk_17_method_122_code 58 = .ok (.iload_n 3, 1) := by decide +kernel
theorem d_jdk_17_method_122_code_59 : decode jdk_17_method_122_code 59 = .ok (.iload 8, 2) := by decide +kernel
theorem d_jdk_17_method_122_code_61 : decode jdk_17_method_122_code 61 = .ok (.lload 4, 2) := by decide +kernel
theorem d_jdk_17_method_122_code_63 : decode jdk_17_method_122_code 63 = .ok (.lconst 1, 1) := by decide +kernel
theorem d_jdk_17_method_122_code_64 : decode jdk_17_method_122_code 64 = .ok (.land, 1) := by decide +kernel
theorem d_jdk_17_method_122_code_65 : decode jdk_17_method_122_code 65 = .ok (.lconst 0, 1) := by decide +kernel
theorem d_jdk_17_method_122_code_66 : decode jdk_17_method_122_code 66 = .ok (.lcmp, 1) := by decide +kernel
theorem d_jdk_17_method_122_code_67 : decode jdk_17_method_122_code 67 = .ok (.ifCond .eq 7, 3) := by decide +kernel
theorem d_jdk_17_method_122_code_70 : decode jdk_17_method_122_code 70 = .ok (.iconst 1, 1) := by decide +kernel
theorem d_jdk_17_method_122_code_71 : decode jdk_17_method_122_code 71 = .ok (.goto 4, 3) := by decide +kernel
theorem d_jdk_17_method_122_code_74 : decode jdk_17_method_122_code 74 = .ok (.iconst 0, 1) := by decide +kernel
theorem d_jdk_17_method_122_code_75 : decode jdk_17_method_122_code 75 = .ok (.invokestatic 937, 3) := by decide +kernel
theorem d_jdk_17_method_122_code_78 : decode jdk_17_method_122_code 78 = .ok (.ireturn, 1) := by decide +kernel
theorem d_jdk_18_method_1_code_0 : decode jdk_18_method_1_code 0 = .ok (.aload_n 0, 1) := by decide +kernel
theorem d_jdk_18_method_1_code_1 : decode jdk_18_method_1_code 1 = .ok (.invokespecial 1, 3) := by decide +kernel
theorem d_jdk_18_method_1_code_4 : decode jdk_18_method_1_code 4 = .ok (.return_, 1) := by decide +kernel
theorem d_jdk_17_method_1_code_0 : decode jdk_17_method_1_code 0 = .ok (.aload_n 0, 1) := by decide +kernel
theorem d_jdk_17_method_1_code_1 : decode jdk_17_method_1_code 1 = .ok (.invokespecial 11, 3) := by decide +kernel
theorem d_jdk_17_method_1_code_4 : decode jdk_17_method_1_code 4 = .ok (.aload_n 0, 1) := by decide +kernel
theorem d_jdk_17_method_1_code_5 : decode jdk_17_method_1_code 5 = .ok (.iload 4, 2) := by decide +kernel
theorem d_jdk_17_method_1_code_7 : decode jdk_17_method_1_code 7 = .ok (.putfield 17, 3) := by decide +kernel
theorem d_jdk_17_method_1_code_10 : decode jdk_17_method_1_code 10 = .ok (.aload_n 0, 1) := by decide +kernel
theorem d_jdk_17_method_1_code_11 : decode jdk_17_method_1_code 11 = .ok (.iload 5, 2) := by decide +kernel
theorem d_jdk_17_method_1_code_13 : decode jdk_17_method_1_code 13 = .ok (.putfield 21, 3) := by decide +kernel
theorem d_jdk_17_method_1_code_16 : decode jdk_17_method_1_code 16 = .ok (.aload_n 0, 1) := by decide +kernel
theorem d_jdk_17_method_1_code_17 : decode jdk_17_method_1_code 17 = .ok (.lload_n 2, 1) := by decide +kernel
theorem d_jdk_17_method_1_code_18 : decode jdk_17_method_1_code 18 = .ok (.putfield 24, 3) := by decide +kernel
theorem d_jdk_17_method_1_code_21 : decode jdk_17_method_1_code 21 = .ok (.aload_n 0, 1) := by decide +kernel
theorem d_jdk_17_method_1_code_22 : decode jdk_17_method_1_code 22 = .ok (.aload_n 1, 1) := by decide +kernel
theorem d_jdk_17_method_1_code_23 : decode jdk_17_method_1_code 23 = .ok (.putfield 28, 3) := by decide +kernel
theorem d_jdk_17_method_1_code_26 : decode jdk_17_method_1_code 26 = .ok (.return_, 1) := by decide +kernel
theorem d_prog_8_method_1_code_0 : decode prog_8_method_1_code 0 = .ok (.aload_n 0, 1) := by decide +kernel
theorem d_prog_8_method_1_code_1 : decode prog_8_method_1_code 1 = .ok (.invokespecial 1, 3) := by decide +kernel
theorem d_prog_8_method_1_code_4 : decode prog_8_method_1_code 4 = .ok (.aload_n 0, 1) := by decide +kernel
theorem d_prog_8_method_1_code_5 : decode prog_8_method_1_code 5 = .ok (.aload_n 1, 1) := by decide +kernel
theorem d_prog_8_method_1_code_6 : decode prog_8_method_1_code 6 = .ok (.putfield 7, 3) := by decide +kernel
theorem d_prog_8_method_1_code_9 : decode prog_8_method_1_code 9 = .ok (.aload_n 0, 1) := by decide +kernel
theorem d_prog_8_method_1_code_10 : decode prog_8_method_1_code 10 = .ok (.aload_n 2, 1) := by decide +kernel
theorem d_prog_8_method_1_code_11 : decode prog_8_method_1_code 11 = .ok (.putfield 13, 3) := by decide +kernel
theorem d_prog_8_method_1_code_14 : decode prog_8_method_1_code 14 = .ok (.return_, 1) := by decide +kernel
theorem d_jdk_17_method_21_code_0 : decode jdk_17_method_21_code 0 = .ok (.lload_n 0, 1) := by decide +kernel
theorem d_jdk_17_method_21_code_1 : decode jdk_17_method_21_code 1 = .ok (.lconst 0, 1) := by decide +kernel
theorem d_jdk_17_method_21_code_2 : decode jdk_17_method_21_code 2 = .ok (.lcmp, 1) := by decide +kernel
theorem d_jdk_17_method_21_code_3 : decode jdk_17_method_21_code 3 = .ok (.ifCond .lt 20, 3) := by decide +kernel
theorem d_jdk_17_method_21_code_6 : decode jdk_17_method_21_code 6 = .ok (.lload_n 0, 1) := by decide +kernel
theorem d_jdk_17_method_21_code_7 : decode jdk_17_method_21_code 7 = .ok (.getstatic 246, 3) := by decide +kernel
theorem d_jdk_17_method_21_code_10 : decode jdk_17_method_21_code 10 = .ok (.arraylength, 1) := by decide +kernel
theorem d_jdk_17_method_21_code_11 : decode jdk_17_method_21_code 11 = .ok (.i2l, 1) := by decide +kernel
theorem d_jdk_17_method_21_code_12 : decode jdk_17_method_21_code 12 = .ok (.lcmp, 1) := by decide +kernel
theorem d_jdk_17_method_21_code_13 : decode jdk_17_method_21_code 13 = .ok (.ifCond .ge 10, 3) := by decide +kernel
theorem d_jdk_17_method_21_code_16 : decode jdk_17_method_21_code 16 = .ok (.getstatic 246, 3) := by decide +kernel
theorem d_jdk_17_method_21_code_19 : decode jdk_17_method_21_code 19 = .ok (.lload_n 0, 1) := by decide +kernel
theorem d_jdk_17_method_21_code_20 : decode jdk_17_method_21_code 20 = .ok (.l2i, 1) := by decide +kernel
theorem d_jdk_17_method_21_code_21 : decode jdk_17_method_21_code 21 = .ok (.aaload, 1) := by decide +kernel
theorem d_jdk_17_method_21_code_22 : decode jdk_17_method_21_code 22 = .ok (.areturn, 1) := by decide +kernel
theorem d_jdk_17_method_21_code_23 : decode jdk_17_method_21_code 23 = .ok (.lload_n 0, 1) := by decide +kernel
theorem d_jdk_17_method_21_code_24 : decode jdk_17_method_21_code 24 = .ok (.ldc2_w 125, 3) := by decide +kernel
theorem d_jdk_17_method_21_code_27 : decode jdk_17_method_21_code 27 = .ok (.lcmp, 1) := by decide +kernel
theorem d_jdk_17_method_21_code_28 : decode jdk_17_method_21_code 28 = .ok (.ifCond .eq 15, 3) := by decide +kernel
theorem d_jdk_17_method_21_code_31 : decode jdk_17_method_21_code 31 = .ok (.new 3, 3) := by decide +kernel
theorem d_jdk_17_method_21_code_34 : decode jdk_17_method_21_code 34 = .ok (.dup, 1) := by decide +kernel
theorem d_jdk_17_method_21_code_35 : decode jdk_17_method_21_code 35 = .ok (.aconst_null, 1) := by decide +kernel
theorem d_jdk_17_method_21_code_36 : decode jdk_17_method_21_code 36 = .ok (.lload_n 0, 1) := by decide +kernel
theorem d_jdk_17_method_21_code_37 : decode jdk_17_method_21_code 37 = .ok (.iconst 0, 1) := by decide +kernel
theorem d_jdk_17_method_21_code_38 : decode jdk_17_method_21_code 38 = .ok (.iconst 0, 1) := by decide +kernel
theorem d_jdk_17_method_21_code_39 : decode jdk_17_method_21_code 39 = .ok (.invokespecial 243, 3) := by decide +kernel
theorem d_jdk_17_method_21_code_42 : decode jdk_17_method_21_code 42 = .ok (.areturn, 1) := by decide +kernel
theorem d_jdk_17_method_24_code_0 : decode jdk_17_method_24_code 0 = .ok (.iload_n 0, 1) := by decide +kernel
theorem d_jdk_17_method_24_code_1 : decode jdk_17_method_24_code 1 = .ok (.ifCond .lt 17, 3) := by decide +kernel
theorem d_jdk_17_method_24_code_4 : decode jdk_17_method_24_code 4 = .ok (.iload_n 0, 1) := by decide +kernel
theorem d_jdk_17_method_24_code_5 : decode jdk_17_method_24_code 5 = .ok (.getstatic 250, 3) := by decide +kernel
theorem d_jdk_17_method_24_code_8 : decode jdk_17_method_24_code 8 = .ok (.arraylength, 1) := by decide +kernel
theorem d_jdk_17_method_24_code_9 : decode jdk_17_method_24_code 9 = .ok (.if_icmp .ge 9, 3) := by decide +kernel
theorem d_jdk_17_method_24_code_12 : decode jdk_17_method_24_code 12 = .ok (.getstatic 250, 3) := by decide +kernel
theorem d_jdk_17_method_24_code_15 : decode jdk_17_method_24_code 15 = .ok (.iload_n 0, 1) := by decide +kernel
theorem d_jdk_17_method_24_code_16 : decode jdk_17_method_24_code 16 = .ok (.aaload, 1) := by decide +kernel
theorem d_jdk_17_method_24_code_17 : decode jdk_17_method_24_code 17 = .ok (.areturn, 1) := by decide +kernel
theorem d_jdk_17_method_20_code_0 : decode jdk_17_method_20_code 0 = .ok (.iload_n 2, 1) := by decide +kernel
theorem d_jdk_17_method_20_code_1 : decode jdk_17_method_20_code 1 = .ok (.ifCond .ne 8, 3) := by decide +kernel
theorem d_jdk_17_method_20_code_4 : decode jdk_17_method_20_code 4 = .ok (.lload_n 0, 1) := by decide +kernel
theorem d_jdk_17_method_20_code_5 : decode jdk_17_method_20_code 5 = .ok (.invokestatic 236, 3) := by decide +kernel
theorem d_jdk_17_method_20_code_8 : decode jdk_17_method_20_code 8 = .ok (.areturn, 1) := by decide +kernel
theorem d_jdk_17_method_20_code_9 : decode jdk_17_method_20_code 9 = .ok (.lload_n 0, 1) := by decide +kernel
theorem d_jdk_17_method_20_code_10 : decode jdk_17_method_20_code 10 = .ok (.lconst 0, 1) := by decide +kernel
theorem d_jdk_17_method_20_code_11 : decode jdk_17_method_20_code 11 = .ok (.lcmp, 1) := by decide +kernel
theorem d_jdk_17_method_20_code_12 : decode jdk_17_method_20_code 12 = .ok (.ifCond .ne 8, 3) := by decide +kernel
theorem d_jdk_17_method_20_code_15 : decode jdk_17_method_20_code 15 = .ok (.iload_n 2, 1) := by decide +kernel
theorem d_jdk_17_method_20_code_16 : decode jdk_17_method_20_code 16 = .ok (.invokestatic 239, 3) := by decide +kernel
theorem d_jdk_17_method_20_code_19 : decode jdk_17_method_20_code 19 = .ok (.areturn, 1) := by decide +kernel
theorem d_jdk_17_method_20_code_20 : decode jdk_17_method_20_code 20 = .ok (.new 3, 3) := by decide +kernel
theorem d_jdk_17_method_20_code_23 : decode jdk_17_method_20_code 23 = .ok (.dup, 1) := by decide +kernel
theorem d_jdk_17_method_20_code_24 : decode jdk_17_method_20_code 24 = .ok (.lload_n 0, 1) := by decide +kernel
theorem d_jdk_17_method_20_code_25 : decode jdk_17_method_20_code 25 = .ok (.ldc2_w 125, 3) := by decide +kernel
theorem d_jdk_17_method_20_code_28 : decode jdk_17_method_20_code 28 = .ok (.lcmp, 1) := by decide +kernel
theorem d_jdk_17_method_20_code_29 : decode jdk_17_method_20_code 29 = .ok (.ifCond .ne 9, 3) := by decide +kernel
theorem d_jdk_17_method_20_code_38 : decode jdk_17_method_20_code 38 = .ok (.aconst_null, 1) := by decide +kernel
theorem d_jdk_17_method_20_code_39 : decode jdk_17_method_20_code 39 = .ok (.lload_n 0, 1) := by decide +kernel
theorem d_jdk_17_method_20_code_40 : decode jdk_17_method_20_code 40 = .ok (.iload_n 2, 1) := by decide +kernel
theorem d_jdk_17_method_20_code_41 : decode jdk_17_method_20_code 41 = .ok (.iconst 0, 1) := by decide +kernel
theorem d_jdk_17_method_20_code_42 : decode jdk_17_method_20_code 42 = .ok (.invokespecial 243, 3) := by decide +kernel
theorem d_jdk_17_method_20_code_45 : decode jdk_17_method_20_code 45 = .ok (.areturn, 1) := by decide +kernel
theorem d_jdk_17_method_156_code_0 : decode jdk_17_method_156_code 0 = .ok (.lload_n 0, 1) := by decide +kernel
theorem d_jdk_17_method_156_code_1 : decode jdk_17_method_156_code 1 = .ok (.lload_n 2, 1) := by decide +kernel
theorem d_jdk_17_method_156_code_2 : decode jdk_17_method_156_code 2 = .ok (.lmul, 1) := by decide +kernel
theorem d_jdk_17_method_156_code_3 : decode jdk_17_method_156_code 3 = .ok (.lstore 4, 2) := by decide +kernel
theorem d_jdk_17_method_156_code_5 : decode jdk_17_method_156_code 5 = .ok (.lload_n 0, 1) := by decide +kernel
theorem d_jdk_17_method_156_code_6 : decode jdk_17_method_156_code 6 = .ok (.invokestatic 440, 3) := by decide +kernel
theorem d_jdk_17_method_156_code_9 : decode jdk_17_method_156_code 9 = .ok (.lstore 6, 2) := by decide +kernel
theorem d_jdk_17_method_156_code_11 : decode jdk_17_method_156_code 11 = .ok (.lload_n 2, 1) := by decide +kernel
theorem d_jdk_17_method_156_code_12 : decode jdk_17_method_156_code 12 = .ok (.invokestatic 440, 3) := by decide +kernel
theorem d_jdk_17_method_156_code_15 : decode jdk_17_method_156_code 15 = .ok (.lstore 8, 2) := by decide +kernel
theorem d_jdk_17_method_156_code_17 : decode jdk_17_method_156_code 17 = .ok (.lload 6, 2) := by decide +kernel
theorem d_jdk_17_method_156_code_19 : decode jdk_17_method_156_code 19 = .ok (.lload 8, 2) := by decide +kernel
theorem d_jdk_17_method_156_code_21 : decode jdk_17_method_156_code 21 = .ok (.lor, 1) := by decide +kernel
theorem d_jdk_17_method_156_code_22 : decode jdk_17_method_156_code 22 = .ok (.bipush 31, 2) := by decide +kernel
theorem d_jdk_17_method_156_code_24 : decode jdk_17_method_156_code 24 = .ok (.lushr, 1) := by decide +kernel
theorem d_jdk_17_method_156_code_25 : decode jdk_17_method_156_code 25 = .ok (.lconst 0, 1) := by decide +kernel
theorem d_jdk_17_method_156_code_26 : decode jdk_17_method_156_code 26 = .ok (.lcmp, 1) := by decide +kernel
theorem d_jdk_17_method_156_code_27 : decode jdk_17_method_156_code 27 = .ok (.ifCond .eq 18, 3) := by decide +kernel
theorem d_jdk_17_method_156_code_30 : decode jdk_17_method_156_code 30 = .ok (.lload_n 2, 1) := by decide +kernel
theorem d_jdk_17_method_156_code_31 : decode jdk_17_method_156_code 31 = .ok (.lconst 0, 1) := by decide +kernel
theorem d_jdk_17_method_156_code_32 : decode jdk_17_method_156_code 32 = .ok (.lcmp, 1) := by decide +kernel
theorem d_jdk_17_method_156_code_33 : decode jdk_17_method_156_code 33 = .ok (.ifCond .eq 12, 3) := by decide +kernel
theorem d_jdk_17_method_156_code_36 : decode jdk_17_method_156_code 36 = .ok (.lload 4, 2) := by decide +kernel
theorem d_jdk_17_method_156_code_38 : decode jdk_17_method_156_code 38 = .ok (.lload_n 2, 1) := by decide +kernel
theorem d_jdk_17_method_156_code_39 : decode jdk_17_method_156_code 39 = .ok (.ldiv, 1) := by decide +kernel
theorem d_jdk_17_method_156_code_40 : decode jdk_17_method_156_code 40 = .ok (.lload_n 0, 1) := by decide +kernel
theorem d_jdk_17_method_156_code_41 : decode jdk_17_method_156_code 41 = .ok (.lcmp, 1) := by decide +kernel
theorem d_jdk_17_method_156_code_42 : decode jdk_17_method_156_code 42 = .ok (.ifCond .ne 6, 3) := by decide +kernel
theorem d_jdk_17_method_156_code_45 : decode jdk_17_method_156_code 45 = .ok (.lload 4, 2) := by decide +kernel
theorem d_jdk_17_method_156_code_47 : decode jdk_17_method_156_code 47 = .ok (.lreturn, 1) := by decide +kernel
theorem d_jdk_17_method_157_code_0 : decode jdk_17_method_157_code 0 = .ok (.lload_n 0, 1) := by decide +kernel
theorem d_jdk_17_method_157_code_1 : decode jdk_17_method_157_code 1 = .ok (.lload_n 2, 1) := by decide +kernel
theorem d_jdk_17_method_157_code_2 : decode jdk_17_method_157_code 2 = .ok (.invokestatic 1055, 3) := by decide +kernel
theorem d_jdk_17_method_157_code_5 : decode jdk_17_method_157_code 5 = .ok (.lstore 5, 2) := by decide +kernel
theorem d_jdk_17_method_157_code_7 : decode jdk_17_method_157_code 7 = .ok (.lload 5, 2) := by decide +kernel
theorem d_jdk_17_method_157_code_9 : decode jdk_17_method_157_code 9 = .ok (.ldc2_w 125, 3) := by decide +kernel
theorem d_jdk_17_method_157_code_12 : decode jdk_17_method_157_code 12 = .ok (.lcmp, 1) := by decide +kernel
theorem d_jdk_17_method_157_code_13 : decode jdk_17_method_157_code 13 = .ok (.ifCond .eq 11, 3) := by decide +kernel
theorem d_jdk_17_method_157_code_16 : decode jdk_17_method_157_code 16 = .ok (.lload 5, 2) := by decide +kernel
theorem d_jdk_17_method_157_code_18 : decode jdk_17_method_157_code 18 = .ok (.iload 4, 2) := by decide +kernel
theorem d_jdk_17_method_157_code_20 : decode jdk_17_method_157_code 20 = .ok (.invokestatic 328, 3) := by decide +kernel
theorem d_jdk_17_method_157_code_23 : decode jdk_17_method_157_code 23 = .ok (.areturn, 1) := by decide +kernel
theorem d_jdk_17_method_106_code_0 : decode jdk_17_method_106_code 0 = .ok (.lload_n 1, 1) := by decide +kernel
theorem d_jdk_17_method_106_code_1 : decode jdk_17_method_106_code 1 = .ok (.l2i, 1) := by decide +kernel
theorem d_jdk_17_method_106_code_2 : decode jdk_17_method_106_code 2 = .ok (.istore_n 3, 1) := by decide +kernel
theorem d_jdk_17_method_106_code_3 : decode jdk_17_method_106_code 3 = .ok (.iload_n 3, 1) := by decide +kernel
theorem d_jdk_17_method_106_code_4 : decode jdk_17_method_106_code 4 = .ok (.i2l, 1) := by decide +kernel
theorem d_jdk_17_method_106_code_5 : decode jdk_17_method_106_code 5 = .ok (.lload_n 1, 1) := by decide +kernel
theorem d_jdk_17_method_106_code_6 : decode jdk_17_method_106_code 6 = .ok (.lcmp, 1) := by decide +kernel
theorem d_jdk_17_method_106_code_7 : decode jdk_17_method_106_code 7 = .ok (.ifCond .eq 69, 3) := by decide +kernel
theorem d_jdk_17_method_106_code_76 : decode jdk_17_method_106_code 76 = .ok (.iload_n 3, 1) := by decide +kernel
theorem d_jdk_17_method_106_code_77 : decode jdk_17_method_106_code 77 = .ok (.ireturn, 1) := by decide +kernel
theorem d_jdk_17_method_113_code_0 : decode jdk_17_method_113_code 0 = .ok (.lload_n 2, 1) := by decide +kernel
theorem d_jdk_17_method_113_code_1 : decode jdk_17_method_113_code 1 = .ok (.l2i, 1) := by decide +kernel
theorem d_jdk_17_method_113_code_2 : decode jdk_17_method_113_code 2 = .ok (.istore 4, 2) := by decide +kernel
theorem d_jdk_17_method_113_code_4 : decode jdk_17_method_113_code 4 = .ok (.iload 4, 2) := by decide +kernel
theorem d_jdk_17_method_113_code_6 : decode jdk_17_method_113_code 6 = .ok (.i2l, 1) := by decide +kernel
theorem d_jdk_17_method_113_code_7 : decode jdk_17_method_113_code 7 = .ok (.lload_n 2, 1) := by decide +kernel
theorem d_jdk_17_method_113_code_8 : decode jdk_17_method_113_code 8 = .ok (.lcmp, 1) := by decide +kernel
theorem d_jdk_17_method_113_code_9 : decode jdk_17_method_113_code 9 = .ok (.ifCond .eq 50, 3) := by decide +kernel
theorem d_jdk_17_method_113_code_59 : decode jdk_17_method_113_code 59 = .ok (.iload 4, 2) := by decide +kernel
theorem d_jdk_17_method_113_code_61 : decode jdk_17_method_113_code 61 = .ok (.ireturn, 1) := by decide +kernel
theorem d_jdk_17_method_31_code_0 : decode jdk_17_method_31_code 0 = .ok (.aload_n 0, 1) := by decide +kernel
theorem d_jdk_17_method_31_code_1 : decode jdk_17_method_31_code 1 = .ok (.aload_n 0, 1) := by decide +kernel
theorem d_jdk_17_method_31_code_2 : decode jdk_17_method_31_code 2 = .ok (.getfield 17, 3) := by decide +kernel
theorem d_jdk_17_method_31_code_5 : decode jdk_17_method_31_code 5 = .ok (.i2l, 1) := by decide +kernel
theorem d_jdk_17_method_31_code_6 : decode jdk_17_method_31_code 6 = .ok (.aload_n 1, 1) := by decide +kernel
theorem d_jdk_17_method_31_code_7 : decode jdk_17_method_31_code 7 = .ok (.getfield 17, 3) := by decide +kernel
theorem d_jdk_17_method_31_code_10 : decode jdk_17_method_31_code 10 = .ok (.i2l, 1) := by decide +kernel
theorem d_jdk_17_method_31_code_11 : decode jdk_17_method_31_code 11 = .ok (.ladd, 1) := by decide +kernel
theorem d_jdk_17_method_31_code_12 : decode jdk_17_method_31_code 12 = .ok (.invokevirtual 325, 3) := by decide +kernel
theorem d_jdk_17_method_31_code_15 : decode jdk_17_method_31_code 15 = .ok (.istore_n 2, 1) := by decide +kernel
theorem d_jdk_17_method_31_code_16 : decode jdk_17_method_31_code 16 = .ok (.aload_n 0, 1) := by decide +kernel
theorem d_jdk_17_method_31_code_17 : decode jdk_17_method_31_code 17 = .ok (.getfield 24, 3) := by decide +kernel
theorem d_jdk_17_method_31_code_20 : decode jdk_17_method_31_code 20 = .ok (.ldc2_w 125, 3) := by decide +kernel
theorem d_jdk_17_method_31_code_23 : decode jdk_17_method_31_code 23 = .ok (.lcmp, 1) := by decide +kernel
theorem d_jdk_17_method_31_code_24 : decode jdk_17_method_31_code 24 = .ok (.ifCond .eq 40, 3) := by decide +kernel
theorem d_jdk_17_method_31_code_27 : decode jdk_17_method_31_code 27 = .ok (.aload_n 1, 1) := by decide +kernel
theorem d_jdk_17_method_31_code_28 : decode jdk_17_method_31_code 28 = .ok (.getfield 24, 3) := by decide +kernel
theorem d_jdk_17_method_31_code_31 : decode jdk_17_method_31_code 31 = .ok (.ldc2_w 125, 3) := by decide +kernel
theorem d_jdk_17_method_31_code_34 : decode jdk_17_method_31_code 34 = .ok (.lcmp, 1) := by decide +kernel
theorem d_jdk_17_method_31_code_35 : decode jdk_17_method_31_code 35 = .ok (.ifCond .eq 16, 3) := by decide +kernel
theorem d_jdk_17_method_31_code_38 : decode jdk_17_method_31_code 38 = .ok (.aload_n 0, 1) := by decide +kernel
theorem d_jdk_17_method_31_code_39 : decode jdk_17_method_31_code 39 = .ok (.getfield 24, 3) := by decide +kernel
theorem d_jdk_17_method_31_code_42 : decode jdk_17_method_31_code 42 = .ok (.aload_n 1, 1) := by decide +kernel
theorem d_jdk_17_method_31_code_43 : decode jdk_17_method_31_code 43 = .ok (.getfield 24, 3) := by decide +kernel
theorem d_jdk_17_method_31_code_46 : decode jdk_17_method_31_code 46 = .ok (.iload_n 2, 1) := by decide +kernel
theorem d_jdk_17_method_31_code_47 : decode jdk_17_method_31_code 47 = .ok (.invokestatic 342, 3) := by decide +kernel
theorem d_jdk_17_method_31_code_50 : decode jdk_17_method_31_code 50 = .ok (.areturn, 1) := by decide +kernel
theorem d_prog_8_method_4_code_0 : decode prog_8_method_4_code 0 = .ok (.new 8, 3) := by decide +kernel
theorem d_prog_8_method_4_code_3 : decode prog_8_method_4_code 3 = .ok (.dup, 1) := by decide +kernel
theorem d_prog_8_method_4_code_4 : decode prog_8_method_4_code 4 = .ok (.getstatic 16, 3) := by decide +kernel
theorem d_prog_8_method_4_code_7 : decode prog_8_method_4_code 7 = .ok (.iload_n 0, 1) := by decide +kernel
theorem d_prog_8_method_4_code_8 : decode prog_8_method_4_code 8 = .ok (.i2l, 1) := by decide +kernel
theorem d_prog_8_method_4_code_9 : decode prog_8_method_4_code 9 = .ok (.invokestatic 24, 3) := by decide +kernel
theorem d_prog_8_method_4_code_12 : decode prog_8_method_4_code 12 = .ok (.invokespecial 21, 3) := by decide +kernel
theorem d_prog_8_method_4_code_15 : decode prog_8_method_4_code 15 = .ok (.areturn, 1) := by decide +kernel
theorem d_jdk_17_method_97_code_0 : decode jdk_17_method_97_code 0 = .ok (.lload_n 0, 1) := by decide +kernel
theorem d_jdk_17_method_97_code_1 : decode jdk_17_method_97_code 1 = .ok (.lconst 0, 1) := by decide +kernel
theorem d_jdk_17_method_97_code_2 : decode jdk_17_method_97_code 2 = .ok (.lcmp, 1) := by decide +kernel
theorem d_jdk_17_method_97_code_3 : decode jdk_17_method_97_code 3 = .ok (.ifCond .eq 7, 3) := by decide +kernel
theorem d_jdk_17_method_97_code_6 : decode jdk_17_method_97_code 6 = .ok (.iload_n 2, 1) := by decide +kernel
theorem d_jdk_17_method_97_code_7 : decode jdk_17_method_97_code 7 = .ok (.ifCond .gt 5, 3) := by decide +kernel
theorem d_jdk_17_method_97_code_10 : decode jdk_17_method_97_code 10 = .ok (.lload_n 0, 1) := by decide +kernel
theorem d_jdk_17_method_97_code_11 : decode jdk_17_method_97_code 11 = .ok (.lreturn, 1) := by decide +kernel
theorem d_jdk_17_method_97_code_12 : decode jdk_17_method_97_code 12 = .ok (.getstatic 95, 3) := by decide +kernel
theorem d_jdk_17_method_97_code_15 : decode jdk_17_method_97_code 15 = .ok (.astore_n 3, 1) := by decide +kernel
theorem d_jdk_17_method_97_code_16 : decode jdk_17_method_97_code 16 = .ok (.getstatic 825, 3) := by decide +kernel
theorem d_jdk_17_method_97_code_19 : decode jdk_17_method_97_code 19 = .ok (.astore 4, 2) := by decide +kernel
theorem d_jdk_17_method_97_code_21 : decode jdk_17_method_97_code 21 = .ok (.iload_n 2, 1) := by decide +kernel
theorem d_jdk_17_method_97_code_22 : decode jdk_17_method_97_code 22 = .ok (.aload_n 3, 1) := by decide +kernel
theorem d_jdk_17_method_97_code_23 : decode jdk_17_method_97_code 23 = .ok (.arraylength, 1) := by decide +kernel
theorem d_jdk_17_method_97_code_24 : decode jdk_17_method_97_code 24 = .ok (.if_icmp .ge 41, 3) := by decide +kernel
theorem d_jdk_17_method_97_code_27 : decode jdk_17_method_97_code 27 = .ok (.iload_n 2, 1) := by decide +kernel
theorem d_jdk_17_method_97_code_28 : decode jdk_17_method_97_code 28 = .ok (.aload 4, 2) := by decide +kernel
theorem d_jdk_17_method_97_code_30 : decode jdk_17_method_97_code 30 = .ok (.arraylength, 1) := by decide +kernel
theorem d_jdk_17_method_97_code_31 : decode jdk_17_method_97_code 31 = .ok (.if_icmp .ge 34, 3) := by decide +kernel
theorem d_jdk_17_method_97_code_34 : decode jdk_17_method_97_code 34 = .ok (.aload_n 3, 1) := by decide +kernel
theorem d_jdk_17_method_97_code_35 : decode jdk_17_method_97_code 35 = .ok (.iload_n 2, 1) := by decide +kernel
theorem d_jdk_17_method_97_code_36 : decode jdk_17_method_97_code 36 = .ok (.laload, 1) := by decide +kernel
theorem d_jdk_17_method_97_code_37 : decode jdk_17_method_97_code 37 = .ok (.lstore 5, 2) := by decide +kernel
theorem d_jdk_17_method_97_code_39 : decode jdk_17_method_97_code 39 = .ok (.lload_n 0, 1) := by decide +kernel
theorem d_jdk_17_method_97_code_40 : decode jdk_17_method_97_code 40 = .ok (.lconst 1, 1) := by decide +kernel
theorem d_jdk_17_method_97_code_41 : decode jdk_17_method_97_code 41 = .ok (.lcmp, 1) := by decide +kernel
theorem d_jdk_17_method_97_code_42 : decode jdk_17_method_97_code 42 = .ok (.ifCond .ne 6, 3) := by decide +kernel
theorem d_jdk_17_method_97_code_45 : decode jdk_17_method_97_code 45 = .ok (.lload 5, 2) := by decide +kernel
theorem d_jdk_17_method_97_code_47 : decode jdk_17_method_97_code 47 = .ok (.lreturn, 1) := by decide +kernel
theorem d_jdk_17_method_97_code_48 : decode jdk_17_method_97_code 48 = .ok (.lload_n 0, 1) := by decide +kernel
theorem d_jdk_17_method_97_code_49 : decode jdk_17_method_97_code 49 = .ok (.invokestatic 440, 3) := by decide +kernel
theorem d_jdk_17_method_97_code_52 : decode jdk_17_method_97_code 52 = .ok (.aload 4, 2) := by decide +kernel
theorem d_jdk_17_method_97_code_54 : decode jdk_17_method_97_code 54 = .ok (.iload_n 2, 1) := by decide +kernel
theorem d_jdk_17_method_97_code_55 : decode jdk_17_method_97_code 55 = .ok (.laload, 1) := by decide +kernel
theorem d_jdk_17_method_97_code_56 : decode jdk_17_method_97_code 56 = .ok (.lcmp, 1) := by decide +kernel
theorem d_jdk_17_method_97_code_57 : decode jdk_17_method_97_code 57 = .ok (.ifCond .gt 8, 3) := by decide +kernel
theorem d_jdk_17_method_97_code_60 : decode jdk_17_method_97_code 60 = .ok (.lload_n 0, 1) := by decide +kernel
theorem d_jdk_17_method_97_code_61 : decode jdk_17_method_97_code 61 = .ok (.lload 5, 2) := by decide +kernel
theorem d_jdk_17_method_97_code_63 : decode jdk_17_method_97_code 63 = .ok (.lmul, 1) := by decide +kernel
theorem d_jdk_17_method_97_code_64 : decode jdk_17_method_97_code 64 = .ok (.lreturn, 1) := by decide +kernel
theorem d_jdk_17_method_119_code_0 : decode jdk_17_method_119_code 0 = .ok (.lload_n 0, 1) := by decide +kernel
theorem d_jdk_17_method_119_code_1 : decode jdk_17_method_119_code 1 = .ok (.lload_n 2, 1) := by decide +kernel
theorem d_jdk_17_method_119_code_2 : decode jdk_17_method_119_code 2 = .ok (.ldiv, 1) := by decide +kernel
theorem d_jdk_17_method_119_code_3 : decode jdk_17_method_119_code 3 = .ok (.lstore 8, 2) := by decide +kernel
theorem d_jdk_17_method_119_code_5 : decode jdk_17_method_119_code 5 = .ok (.iload 5, 2) := by decide +kernel
theorem d_jdk_17_method_119_code_7 : decode jdk_17_method_119_code 7 = .ok (.iconst 1, 1) := by decide +kernel
theorem d_jdk_17_method_119_code_8 : decode jdk_17_method_119_code 8 = .ok (.if_icmp .ne 18, 3) := by decide +kernel
theorem d_jdk_17_method_119_code_26 : decode jdk_17_method_119_code 26 = .ok (.lload_n 0, 1) := by decide +kernel
theorem d_jdk_17_method_119_code_27 : decode jdk_17_method_119_code 27 = .ok (.lload_n 2, 1) := by decide +kernel
theorem d_jdk_17_method_119_code_28 : decode jdk_17_method_119_code 28 = .ok (.lrem, 1) := by decide +kernel
theorem d_jdk_17_method_119_code_29 : decode jdk_17_method_119_code 29 = .ok (.lstore 10, 2) := by decide +kernel
theorem d_jdk_17_method_119_code_31 : decode jdk_17_method_119_code 31 = .ok (.lload_n 0, 1) := by decide +kernel
theorem d_jdk_17_method_119_code_32 : decode jdk_17_method_119_code 32 = .ok (.lconst 0, 1) := by decide +kernel
theorem d_jdk_17_method_119_code_33 : decode jdk_17_method_119_code 33 = .ok (.lcmp, 1) := by decide +kernel
theorem d_jdk_17_method_119_code_34 : decode jdk_17_method_119_code 34 = .ok (.ifCond .ge 7, 3) := by decide +kernel
theorem d_jdk_17_method_119_code_37 : decode jdk_17_method_119_code 37 = .ok (.iconst 1, 1) := by decide +kernel
theorem d_jdk_17_method_119_code_38 : decode jdk_17_method_119_code 38 = .ok (.goto 4, 3) := by decide +kernel
theorem d_jdk_17_method_119_code_41 : decode jdk_17_method_119_code 41 = .ok (.iconst 0, 1) := by decide +kernel
theorem d_jdk_17_method_119_code_42 : decode jdk_17_method_119_code 42 = .ok (.lload_n 2, 1) := by decide +kernel
theorem d_jdk_17_method_119_code_43 : decode jdk_17_method_119_code 43 = .ok (.lconst 0, 1) := by decide +kernel
theorem d_jdk_17_method_119_code_44 : decode jdk_17_method_119_code 44 = .ok (.lcmp, 1) := by decide +kernel
theorem d_jdk_17_method_119_code_45 : decode jdk_17_method_119_code 45 = .ok (.ifCond .ge 7, 3) := by decide +kernel
theorem d_jdk_17_method_119_code_52 : decode jdk_17_method_119_code 52 = .ok (.iconst 0, 1) := by decide +kernel
theorem d_jdk_17_method_119_code_53 : decode jdk_17_method_119_code 53 = .ok (.if_icmp .ne 7, 3) := by decide +kernel
theorem d_jdk_17_method_119_code_56 : decode jdk_17_method_119_code 56 = .ok (.iconst 1, 1) := by decide +kernel
theorem d_jdk_17_method_119_code_57 : decode jdk_17_method_119_code 57 = .ok (.goto 4, 3) := by decide +kernel
theorem d_jdk_17_method_119_code_60 : decode jdk_17_method_119_code 60 = .ok (.iconst (-1), 1) := by decide +kernel
theorem d_jdk_17_method_119_code_61 : decode jdk_17_method_119_code 61 = .ok (.istore 7, 2) := by decide +kernel
theorem d_jdk_17_method_119_code_63 : decode jdk_17_method_119_code 63 = .ok (.lload 10, 2) := by decide +kernel
theorem d_jdk_17_method_119_code_65 : decode jdk_17_method_119_code 65 = .ok (.lconst 0, 1) := by decide +kernel
theorem d_jdk_17_method_119_code_66 : decode jdk_17_method_119_code 66 = .ok (.lcmp, 1) := by decide +kernel
theorem d_jdk_17_method_119_code_67 : decode jdk_17_method_119_code 67 = .ok (.ifCond .eq 39, 3) := by decide +kernel
theorem d_jdk_17_method_119_code_70 : decode jdk_17_method_119_code 70 = .ok (.lload_n 2, 1) := by decide +kernel
theorem d_jdk_17_method_119_code_71 : decode jdk_17_method_119_code 71 = .ok (.iload 5, 2) := by decide +kernel
theorem d_jdk_17_method_119_code_73 : decode jdk_17_method_119_code 73 = .ok (.iload 7, 2) := by decide +kernel
theorem d_jdk_17_method_119_code_75 : decode jdk_17_method_119_code 75 = .ok (.lload 8, 2) := by decide +kernel
theorem d_jdk_17_method_119_code_77 : decode jdk_17_method_119_code 77 = .ok (.lload 10, 2) := by decide +kernel
theorem d_jdk_17_method_119_code_79 : decode jdk_17_method_119_code 79 = .ok (.invokestatic 924, 3) := by decide +kernel
theorem d_jdk_17_method_119_code_82 : decode jdk_17_method_119_code 82 = .ok (.istore 12, 2) := by decide +kernel
theorem d_jdk_17_method_119_code_84 : decode jdk_17_method_119_code 84 = .ok (.iload 12, 2) := by decide +kernel
theorem d_jdk_17_method_119_code_86 : decode jdk_17_method_119_code 86 = .ok (.ifCond .eq 12, 3) := by decide +kernel
theorem d_jdk_17_method_119_code_89 : decode jdk_17_method_119_code 89 = .ok (.lload 8, 2) := by decide +kernel
theorem d_jdk_17_method_119_code_91 : decode jdk_17_method_119_code 91 = .ok (.iload 7, 2) := by decide +kernel
theorem d_jdk_17_method_119_code_93 : decode jdk_17_method_119_code 93 = .ok (.i2l, 1) := by decide +kernel
theorem d_jdk_17_method_119_code_94 : decode jdk_17_method_119_code 94 = .ok (.ladd, 1) := by decide +kernel
theorem d_jdk_17_method_119_code_95 : decode jdk_17_method_119_code 95 = .ok (.goto 5, 3) := by decide +kernel
theorem d_jdk_17_method_119_code_98 : decode jdk_17_method_119_code 98 = .ok (.lload 8, 2) := by decide +kernel
theorem d_jdk_17_method_119_code_100 : decode jdk_17_method_119_code 100 = .ok (.iload 4, 2) := by decide +kernel
theorem d_jdk_17_method_119_code_102 : decode jdk_17_method_119_code 102 = .ok (.invokestatic 328, 3) := by decide +kernel
theorem d_jdk_17_method_119_code_105 : decode jdk_17_method_119_code 105 = .ok (.areturn, 1) := by decide +kernel
theorem d_jdk_17_method_119_code_106 : decode jdk_17_method_119_code 106 = .ok (.iload 6, 2) := by decide +kernel
theorem d_jdk_17_method_119_code_108 : decode jdk_17_method_119_code 108 = .ok (.iload 4, 2) := by decide +kernel
theorem d_jdk_17_method_119_code_110 : decode jdk_17_method_119_code 110 = .ok (.if_icmp .eq 14, 3) := by decide +kernel
theorem d_jdk_17_method_119_code_124 : decode jdk_17_method_119_code 124 = .ok (.lload 8, 2) := by decide +kernel
theorem d_jdk_17_method_119_code_126 : decode jdk_17_method_119_code 126 = .ok (.iload 4, 2) := by decide +kernel
theorem d_jdk_17_method_119_code_128 : decode jdk_17_method_119_code 128 = .ok (.invokestatic 328, 3) := by decide +kernel
theorem d_jdk_17_method_119_code_131 : decode jdk_17_method_119_code 131 = .ok (.areturn, 1) := by decide +kernel
theorem d_jdk_17_method_166_code_0 : decode jdk_17_method_166_code 0 = .ok (.lload_n 0, 1) := by decide +kernel
theorem d_jdk_17_method_166_code_1 : decode jdk_17_method_166_code 1 = .ok (.iload 6, 2) := by decide +kernel
theorem d_jdk_17_method_166_code_3 : decode jdk_17_method_166_code 3 = .ok (.i2l, 1) := by decide +kernel
theorem d_jdk_17_method_166_code_4 : decode jdk_17_method_166_code 4 = .ok (.iload 5, 2) := by decide +kernel
theorem d_jdk_17_method_166_code_6 : decode jdk_17_method_166_code 6 = .ok (.i2l, 1) := by decide +kernel
theorem d_jdk_17_method_166_code_7 : decode jdk_17_method_166_code 7 = .ok (.ladd, 1) := by decide +kernel
theorem d_jdk_17_method_166_code_8 : decode jdk_17_method_166_code 8 = .ok (.invokestatic 994, 3) := by decide +kernel
theorem d_jdk_17_method_166_code_11 : decode jdk_17_method_166_code 11 = .ok (.iload_n 2, 1) := by decide +kernel
theorem d_jdk_17_method_166_code_12 : decode jdk_17_method_166_code 12 = .ok (.if_icmp .le 106, 3) := by decide +kernel
theorem d_jdk_17_method_166_code_15 : decode jdk_17_method_166_code 15 = .ok (.iload 6, 2) := by decide +kernel
theorem d_jdk_17_method_166_code_17 : decode jdk_17_method_166_code 17 = .ok (.iload 5, 2) := by decide +kernel
theorem d_jdk_17_method_166_code_19 : decode jdk_17_method_166_code 19 = .ok (.iadd, 1) := by decide +kernel
theorem d_jdk_17_method_166_code_20 : decode jdk_17_method_166_code 20 = .ok (.istore 8, 2) := by decide +kernel
theorem d_jdk_17_method_166_code_22 : decode jdk_17_method_166_code 22 = .ok (.iload 8, 2) := by decide +kernel
theorem d_jdk_17_method_166_code_24 : decode jdk_17_method_166_code 24 = .ok (.iload_n 2, 1) := by decide +kernel
theorem d_jdk_17_method_166_code_25 : decode jdk_17_method_166_code 25 = .ok (.isub, 1) := by decide +kernel
theorem d_jdk_17_method_166_code_26 : decode jdk_17_method_166_code 26 = .ok (.istore 9, 2) := by decide +kernel
theorem d_jdk_17_method_166_code_28 : decode jdk_17_method_166_code 28 = .ok (.iload 9, 2) := by decide +kernel
theorem d_jdk_17_method_166_code_30 : decode jdk_17_method_166_code 30 = .ok (.getstatic 95, 3) := by decide +kernel
theorem d_jdk_17_method_166_code_33 : decode jdk_17_method_166_code 33 = .ok (.arraylength, 1) := by decide +kernel
theorem d_jdk_17_method_166_code_34 : decode jdk_17_method_166_code 34 = .ok (.if_icmp .ge 63, 3) := by decide +kernel
theorem d_jdk_17_method_166_code_37 : decode jdk_17_method_166_code 37 = .ok (.lload_n 0, 1) := by decide +kernel
theorem d_jdk_17_method_166_code_38 : decode jdk_17_method_166_code 38 = .ok (.lstore 10, 2) := by decide +kernel
theorem d_jdk_17_method_166_code_40 : decode jdk_17_method_166_code 40 = .ok (.lload 10, 2) := by decide +kernel
theorem d_jdk_17_method_166_code_42 : decode jdk_17_method_166_code 42 = .ok (.iload 9, 2) := by decide +kernel
theorem d_jdk_17_method_166_code_44 : decode jdk_17_method_166_code 44 = .ok (.invokestatic 599, 3) := by decide +kernel
theorem d_jdk_17_method_166_code_47 : decode jdk_17_method_166_code 47 = .ok (.dup2, 1) := by decide +kernel
theorem d_jdk_17_method_166_code_48 : decode jdk_17_method_166_code 48 = .ok (.lstore 10, 2) := by decide +kernel
theorem d_jdk_17_method_166_code_50 : decode jdk_17_method_166_code 50 = .ok (.ldc2_w 125, 3) := by decide +kernel
theorem d_jdk_17_method_166_code_53 : decode jdk_17_method_166_code 53 = .ok (.lcmp, 1) := by decide +kernel
theorem d_jdk_17_method_166_code_54 : decode jdk_17_method_166_code 54 = .ok (.ifCond .eq 16, 3) := by decide +kernel
theorem d_jdk_17_method_166_code_57 : decode jdk_17_method_166_code 57 = .ok (.lload 10, 2) := by decide +kernel
theorem d_jdk_17_method_166_code_59 : decode jdk_17_method_166_code 59 = .ok (.lload_n 3, 1) := by decide +kernel
theorem d_jdk_17_method_166_code_60 : decode jdk_17_method_166_code 60 = .ok (.iload 6, 2) := by decide +kernel
theorem d_jdk_17_method_166_code_62 : decode jdk_17_method_166_code 62 = .ok (.iload 7, 2) := by decide +kernel
theorem d_jdk_17_method_166_code_64 : decode jdk_17_method_166_code 64 = .ok (.iload 6, 2) := by decide +kernel
theorem d_jdk_17_method_166_code_66 : decode jdk_17_method_166_code 66 = .ok (.invokestatic 606, 3) := by decide +kernel
theorem d_jdk_17_method_166_code_69 : decode jdk_17_method_166_code 69 = .ok (.areturn, 1) := by decide +kernel
theorem d_jdk_17_method_166_code_118 : decode jdk_17_method_166_code 118 = .ok (.lload_n 3, 1) := by decide +kernel
theorem d_jdk_17_method_166_code_119 : decode jdk_17_method_166_code 119 = .ok (.iload_n 2, 1) := by decide +kernel
theorem d_jdk_17_method_166_code_120 : decode jdk_17_method_166_code 120 = .ok (.i2l, 1) := by decide +kernel
theorem d_jdk_17_method_166_code_121 : decode jdk_17_method_166_code 121 = .ok (.iload 6, 2) := by decide +kernel
theorem d_jdk_17_method_166_code_123 : decode jdk_17_method_166_code 123 = .ok (.i2l, 1) := by decide +kernel
theorem d_jdk_17_method_166_code_124 : decode jdk_17_method_166_code 124 = .ok (.lsub, 1) := by decide +kernel
theorem d_jdk_17_method_166_code_125 : decode jdk_17_method_166_code 125 = .ok (.invokestatic 994, 3) := by decide +kernel
theorem d_jdk_17_method_166_code_128 : decode jdk_17_method_166_code 128 = .ok (.istore 8, 2) := by decide +kernel
theorem d_jdk_17_method_166_code_130 : decode jdk_17_method_166_code 130 = .ok (.iload 8, 2) := by decide +kernel
theorem d_jdk_17_method_166_code_132 : decode jdk_17_method_166_code 132 = .ok (.iload 5, 2) := by decide +kernel
theorem d_jdk_17_method_166_code_134 : decode jdk_17_method_166_code 134 = .ok (.isub, 1) := by decide +kernel
theorem d_jdk_17_method_166_code_135 : decode jdk_17_method_166_code 135 = .ok (.istore 9, 2) := by decide +kernel
theorem d_jdk_17_method_166_code_137 : decode jdk_17_method_166_code 137 = .ok (.iload 9, 2) := by decide +kernel
theorem d_jdk_17_method_166_code_139 : decode jdk_17_method_166_code 139 = .ok (.getstatic 95, 3) := by decide +kernel
theorem d_jdk_17_method_166_code_142 : decode jdk_17_method_166_code 142 = .ok (.arraylength, 1) := by decide +kernel
theorem d_jdk_17_method_166_code_143 : decode jdk_17_method_166_code 143 = .ok (.if_icmp .ge 36, 3) := by decide +kernel
theorem d_jdk_17_method_166_code_146 : decode jdk_17_method_166_code 146 = .ok (.lload_n 3, 1) := by decide +kernel
theorem d_jdk_17_method_166_code_147 : decode jdk_17_method_166_code 147 = .ok (.lstore 10, 2) := by decide +kernel
theorem d_jdk_17_method_166_code_149 : decode jdk_17_method_166_code 149 = .ok (.lload 10, 2) := by decide +kernel
theorem d_jdk_17_method_166_code_151 : decode jdk_17_method_166_code 151 = .ok (.iload 9, 2) := by decide +kernel
theorem d_jdk_17_method_166_code_153 : decode jdk_17_method_166_code 153 = .ok (.invokestatic 599, 3) := by decide +kernel
theorem d_jdk_17_method_166_code_156 : decode jdk_17_method_166_code 156 = .ok (.dup2, 1) := by decide +kernel
theorem d_jdk_17_method_166_code_157 : decode jdk_17_method_166_code 157 = .ok (.lstore 10, 2) := by decide +kernel
theorem d_jdk_17_method_166_code_159 : decode jdk_17_method_166_code 159 = .ok (.ldc2_w 125, 3) := by decide +kernel
theorem d_jdk_17_method_166_code_162 : decode jdk_17_method_166_code 162 = .ok (.lcmp, 1) := by decide +kernel
theorem d_jdk_17_method_166_code_163 : decode jdk_17_method_166_code 163 = .ok (.ifCond .eq 16, 3) := by decide +kernel
theorem d_jdk_17_method_166_code_166 : decode jdk_17_method_166_code 166 = .ok (.lload_n 0, 1) := by decide +kernel
theorem d_jdk_17_method_166_code_167 : decode jdk_17_method_166_code 167 = .ok (.lload 10, 2) := by decide +kernel
theorem d_jdk_17_method_166_code_169 : decode jdk_17_method_166_code 169 = .ok (.iload 6, 2) := by decide +kernel
theorem d_jdk_17_method_166_code_171 : decode jdk_17_method_166_code 171 = .ok (.iload 7, 2) := by decide +kernel
theorem d_jdk_17_method_166_code_173 : decode jdk_17_method_166_code 173 = .ok (.iload 6, 2) := by decide +kernel
theorem d_jdk_17_method_166_code_175 : decode jdk_17_method_166_code 175 = .ok (.invokestatic 606, 3) := by decide +kernel
theorem d_jdk_17_method_166_code_178 : decode jdk_17_method_166_code 178 = .ok (.areturn, 1) := by decide +kernel
theorem d_jdk_17_method_33_code_0 : decode jdk_17_method_33_code 0 = .ok (.iload_n 3, 1) := by decide +kernel
theorem d_jdk_17_method_33_code_1 : decode jdk_17_method_33_code 1 = .ok (.ifCond .lt 9, 3) := by decide +kernel
theorem d_jdk_17_method_33_code_4 : decode jdk_17_method_33_code 4 = .ok (.iload_n 3, 1) := by decide +kernel
theorem d_jdk_17_method_33_code_5 : decode jdk_17_method_33_code 5 = .ok (.bipush 7, 2) := by decide +kernel
theorem d_jdk_17_method_33_code_7 : decode jdk_17_method_33_code 7 = .ok (.if_icmp .le 14, 3) := by decide +kernel
theorem d_jdk_17_method_33_code_21 : decode jdk_17_method_33_code 21 = .ok (.aload_n 0, 1) := by decide +kernel
theorem d_jdk_17_method_33_code_22 : decode jdk_17_method_33_code 22 = .ok (.getfield 24, 3) := by decide +kernel
theorem d_jdk_17_method_33_code_25 : decode jdk_17_method_33_code 25 = .ok (.ldc2_w 125, 3) := by decide +kernel
theorem d_jdk_17_method_33_code_28 : decode jdk_17_method_33_code 28 = .ok (.lcmp, 1) := by decide +kernel
theorem d_jdk_17_method_33_code_29 : decode jdk_17_method_33_code 29 = .ok (.ifCond .eq 58, 3) := by decide +kernel
theorem d_jdk_17_method_33_code_32 : decode jdk_17_method_33_code 32 = .ok (.aload_n 1, 1) := by decide +kernel
theorem d_jdk_17_method_33_code_33 : decode jdk_17_method_33_code 33 = .ok (.getfield 24, 3) := by decide +kernel
theorem d_jdk_17_method_33_code_36 : decode jdk_17_method_33_code 36 = .ok (.ldc2_w 125, 3) := by decide +kernel
theorem d_jdk_17_method_33_code_39 : decode jdk_17_method_33_code 39 = .ok (.lcmp, 1) := by decide +kernel
theorem d_jdk_17_method_33_code_40 : decode jdk_17_method_33_code 40 = .ok (.ifCond .eq 25, 3) := by decide +kernel
theorem d_jdk_17_method_33_code_43 : decode jdk_17_method_33_code 43 = .ok (.aload_n 0, 1) := by decide +kernel
theorem d_jdk_17_method_33_code_44 : decode jdk_17_method_33_code 44 = .ok (.getfield 24, 3) := by decide +kernel
theorem d_jdk_17_method_33_code_47 : decode jdk_17_method_33_code 47 = .ok (.aload_n 0, 1) := by decide +kernel
theorem d_jdk_17_method_33_code_48 : decode jdk_17_method_33_code 48 = .ok (.getfield 17, 3) := by decide +kernel
theorem d_jdk_17_method_33_code_51 : decode jdk_17_method_33_code 51 = .ok (.aload_n 1, 1) := by decide +kernel
theorem d_jdk_17_method_33_code_52 : decode jdk_17_method_33_code 52 = .ok (.getfield 24, 3) := by decide +kernel
theorem d_jdk_17_method_33_code_55 : decode jdk_17_method_33_code 55 = .ok (.aload_n 1, 1) := by decide +kernel
theorem d_jdk_17_method_33_code_56 : decode jdk_17_method_33_code 56 = .ok (.getfield 17, 3) := by decide +kernel
theorem d_jdk_17_method_33_code_59 : decode jdk_17_method_33_code 59 = .ok (.iload_n 2, 1) := by decide +kernel
theorem d_jdk_17_method_33_code_60 : decode jdk_17_method_33_code 60 = .ok (.iload_n 3, 1) := by decide +kernel
theorem d_jdk_17_method_33_code_61 : decode jdk_17_method_33_code 61 = .ok (.invokestatic 368, 3) := by decide +kernel
theorem d_jdk_17_method_33_code_64 : decode jdk_17_method_33_code 64 = .ok (.areturn, 1) := by decide +kernel
theorem d_jdk_17_method_34_code_0 : decode jdk_17_method_34_code 0 = .ok (.aload_n 0, 1) := by decide +kernel
theorem d_jdk_17_method_34_code_1 : decode jdk_17_method_34_code 1 = .ok (.aload_n 1, 1) := by decide +kernel
theorem d_jdk_17_method_34_code_2 : decode jdk_17_method_34_code 2 = .ok (.iload_n 2, 1) := by decide +kernel
theorem d_jdk_17_method_34_code_3 : decode jdk_17_method_34_code 3 = .ok (.aload_n 3, 1) := by decide +kernel
theorem d_jdk_17_method_34_code_4 : decode jdk_17_method_34_code 4 = .ok (.getfield 103, 3) := by decide +kernel
theorem d_jdk_17_method_34_code_7 : decode jdk_17_method_34_code 7 = .ok (.invokevirtual 381, 3) := by decide +kernel
theorem d_jdk_17_method_34_code_10 : decode jdk_17_method_34_code 10 = .ok (.areturn, 1) := by decide +kernel
theorem d_prog_8_method_5_code_0 : decode prog_8_method_5_code 0 = .ok (.aload_n 0, 1) := by decide +kernel
theorem d_prog_8_method_5_code_1 : decode prog_8_method_5_code 1 = .ok (.getfield 7, 3) := by decide +kernel
theorem d_prog_8_method_5_code_4 : decode prog_8_method_5_code 4 = .ok (.aload_n 1, 1) := by decide +kernel
theorem d_prog_8_method_5_code_5 : decode prog_8_method_5_code 5 = .ok (.invokevirtual 28, 3) := by decide +kernel
theorem d_prog_8_method_5_code_8 : decode prog_8_method_5_code 8 = .ok (.aload_n 0, 1) := by decide +kernel
theorem d_prog_8_method_5_code_9 : decode prog_8_method_5_code 9 = .ok (.getfield 13, 3) := by decide +kernel
theorem d_prog_8_method_5_code_12 : decode prog_8_method_5_code 12 = .ok (.aload_n 2, 1) := by decide +kernel
theorem d_prog_8_method_5_code_13 : decode prog_8_method_5_code 13 = .ok (.invokevirtual 28, 3) := by decide +kernel
theorem d_prog_8_method_5_code_16 : decode prog_8_method_5_code 16 = .ok (.iload_n 3, 1) := by decide +kernel
theorem d_prog_8_method_5_code_17 : decode prog_8_method_5_code 17 = .ok (.getstatic 32, 3) := by decide +kernel
theorem d_prog_8_method_5_code_20 : decode prog_8_method_5_code 20 = .ok (.invokevirtual 38, 3) := by decide +kernel
theorem d_prog_8_method_5_code_23 : decode prog_8_method_5_code 23 = .ok (.areturn, 1) := by decide +kernel
theorem d_jdk_17_method_72_code_0 : decode jdk_17_method_72_code 0 = .ok (.aload_n 1, 1) := by decide +kernel
theorem d_jdk_17_method_72_code_1 : decode jdk_17_method_72_code 1 = .ok (.instanceof 3, 3) := by decide +kernel
theorem d_jdk_17_method_72_code_4 : decode jdk_17_method_72_code 4 = .ok (.ifCond .eq 11, 3) := by decide +kernel
theorem d_jdk_17_method_72_code_7 : decode jdk_17_method_72_code 7 = .ok (.aload_n 1, 1) := by decide +kernel
theorem d_jdk_17_method_72_code_8 : decode jdk_17_method_72_code 8 = .ok (.checkcast 3, 3) := by decide +kernel
theorem d_jdk_17_method_72_code_11 : decode jdk_17_method_72_code 11 = .ok (.astore_n 2, 1) := by decide +kernel
theorem d_jdk_17_method_72_code_12 : decode jdk_17_method_72_code 12 = .ok (.goto 5, 3) := by decide +kernel
theorem d_jdk_17_method_72_code_17 : decode jdk_17_method_72_code 17 = .ok (.aload_n 1, 1) := by decide +kernel
theorem d_jdk_17_method_72_code_18 : decode jdk_17_method_72_code 18 = .ok (.aload_n 0, 1) := by decide +kernel
theorem d_jdk_17_method_72_code_19 : decode jdk_17_method_72_code 19 = .ok (.if_acmp .ne 5, 3) := by decide +kernel
theorem d_jdk_17_method_72_code_22 : decode jdk_17_method_72_code 22 = .ok (.iconst 1, 1) := by decide +kernel
theorem d_jdk_17_method_72_code_23 : decode jdk_17_method_72_code 23 = .ok (.ireturn, 1) := by decide +kernel
theorem d_jdk_17_method_72_code_24 : decode jdk_17_method_72_code 24 = .ok (.aload_n 0, 1) := by decide +kernel
theorem d_jdk_17_method_72_code_25 : decode jdk_17_method_72_code 25 = .ok (.getfield 17, 3) := by decide +kernel
theorem d_jdk_17_method_72_code_28 : decode jdk_17_method_72_code 28 = .ok (.aload_n 2, 1) := by decide +kernel
theorem d_jdk_17_method_72_code_29 : decode jdk_17_method_72_code 29 = .ok (.getfield 17, 3) := by decide +kernel
theorem d_jdk_17_method_72_code_32 : decode jdk_17_method_72_code 32 = .ok (.if_icmp .eq 5, 3) := by decide +kernel
theorem d_jdk_17_method_72_code_37 : decode jdk_17_method_72_code 37 = .ok (.aload_n 0, 1) := by decide +kernel
theorem d_jdk_17_method_72_code_38 : decode jdk_17_method_72_code 38 = .ok (.getfield 24, 3) := by decide +kernel
theorem d_jdk_17_method_72_code_41 : decode jdk_17_method_72_code 41 = .ok (.lstore_n 3, 1) := by decide +kernel
theorem d_jdk_17_method_72_code_42 : decode jdk_17_method_72_code 42 = .ok (.aload_n 2, 1) := by decide +kernel
theorem d_jdk_17_method_72_code_43 : decode jdk_17_method_72_code 43 = .ok (.getfield 24, 3) := by decide +kernel
theorem d_jdk_17_method_72_code_46 : decode jdk_17_method_72_code 46 = .ok (.lstore 5, 2) := by decide +kernel
theorem d_jdk_17_method_72_code_48 : decode jdk_17_method_72_code 48 = .ok (.lload_n 3, 1) := by decide +kernel
theorem d_jdk_17_method_72_code_49 : decode jdk_17_method_72_code 49 = .ok (.ldc2_w 125, 3) := by decide +kernel
theorem d_jdk_17_method_72_code_52 : decode jdk_17_method_72_code 52 = .ok (.lcmp, 1) := by decide +kernel
theorem d_jdk_17_method_72_code_53 : decode jdk_17_method_72_code 53 = .ok (.ifCond .eq 34, 3) := by decide +kernel
theorem d_jdk_17_method_72_code_56 : decode jdk_17_method_72_code 56 = .ok (.lload 5, 2) := by decide +kernel
theorem d_jdk_17_method_72_code_58 : decode jdk_17_method_72_code 58 = .ok (.ldc2_w 125, 3) := by decide +kernel
theorem d_jdk_17_method_72_code_61 : decode jdk_17_method_72_code 61 = .ok (.lcmp, 1) := by decide +kernel
theorem d_jdk_17_method_72_code_62 : decode jdk_17_method_72_code 62 = .ok (.ifCond .ne 12, 3) := by decide +kernel
theorem d_jdk_17_method_72_code_74 : decode jdk_17_method_72_code 74 = .ok (.lload 5, 2) := by decide +kernel
theorem d_jdk_17_method_72_code_76 : decode jdk_17_method_72_code 76 = .ok (.lload_n 3, 1) := by decide +kernel
theorem d_jdk_17_method_72_code_77 : decode jdk_17_method_72_code 77 = .ok (.lcmp, 1) := by decide +kernel
theorem d_jdk_17_method_72_code_78 : decode jdk_17_method_72_code 78 = .ok (.ifCond .ne 7, 3) := by decide +kernel
theorem d_jdk_17_method_72_code_81 : decode jdk_17_method_72_code 81 = .ok (.iconst 1, 1) := by decide +kernel
theorem d_jdk_17_method_72_code_82 : decode jdk_17_method_72_code 82 = .ok (.goto 4, 3) := by decide +kernel
theorem d_jdk_17_method_72_code_86 : decode jdk_17_method_72_code 86 = .ok (.ireturn, 1) := by decide +kernel
theorem pn0 : plainName "java/math/BigDecimal" = true := by first | (simp [plainName, overriddenIn]; done) | decide +kernel
theorem pn1 : plainName "java/lang/Number" = true := by first | (simp [plainName, overriddenIn]; done) | decide +kernel
theorem pn2 : plainName "com/example/indexwerk/indexwerk/Weight" = true := by first | (simp [plainName, overriddenIn]; done) | decide +kernel
theorem pn3 : plainName "com/example/indexwerk/indexwerk/WeightEqualAmongPinLaw" = true := by first | (simp [plainName, overriddenIn]; done) | decide +kernel
theorem pd0 : parseMethodDescriptor "(JJ)I" = some ⟨[.long, .long], some .int⟩ := by decide +kernel
theorem pd1 : parseMethodDescriptor "(IIIZ)Z" = some ⟨[.int, .int, .int, .boolean], some .boolean⟩ := by decide +kernel
theorem pd2 : parseMethodDescriptor "()V" = some ⟨[], none⟩ := by decide +kernel
theorem pd3 : parseMethodDescriptor "(Ljava/math/BigInteger;JII)V" = some ⟨[(.object "java/math/BigInteger"), .long, .int, .int], none⟩ := by decide +kernel
theorem pd4 : parseMethodDescriptor "(J)Ljava/math/BigDecimal;" = some ⟨[.long], some (.object "java/math/BigDecimal")⟩ := by decide +kernel
theorem pd5 : parseMethodDescriptor "(I)Ljava/math/BigDecimal;" = some ⟨[.int], some (.object "java/math/BigDecimal")⟩ := by decide +kernel
theorem pd6 : parseMethodDescriptor "(J)J" = some ⟨[.long], some .long⟩ := by decide +kernel
theorem pd7 : parseMethodDescriptor "(JJ)J" = some ⟨[.long, .long], some .long⟩ := by decide +kernel
theorem pd8 : parseMethodDescriptor "(JI)Ljava/math/BigDecimal;" = some ⟨[.long, .int], some (.object "java/math/BigDecimal")⟩ := by decide +kernel
theorem pd9 : parseMethodDescriptor "(J)I" = some ⟨[.long], some .int⟩ := by decide +kernel
theorem pd10 : parseMethodDescriptor "(JJI)Ljava/math/BigDecimal;" = some ⟨[.long, .long, .int], some (.object "java/math/BigDecimal")⟩ := by decide +kernel
theorem pd11 : parseMethodDescriptor "(Ljava/math/BigDecimal;Ljava/math/BigDecimal;)V" = some ⟨[(.object "java/math/BigDecimal"), (.object "java/math/BigDecimal")], none⟩ := by decide +kernel
theorem pd12 : parseMethodDescriptor "(JIIJJ)Z" = some ⟨[.long, .int, .int, .long, .long], some .boolean⟩ := by decide +kernel
theorem pd13 : parseMethodDescriptor "(JI)J" = some ⟨[.long, .int], some .long⟩ := by decide +kernel
theorem pd14 : parseMethodDescriptor "(JJIII)Ljava/math/BigDecimal;" = some ⟨[.long, .long, .int, .int, .int], some (.object "java/math/BigDecimal")⟩ := by decide +kernel
theorem pd15 : parseMethodDescriptor "(JIJIII)Ljava/math/BigDecimal;" = some ⟨[.long, .int, .long, .int, .int, .int], some (.object "java/math/BigDecimal")⟩ := by decide +kernel
theorem pd16 : parseMethodDescriptor "(Ljava/math/BigDecimal;II)Ljava/math/BigDecimal;" = some ⟨[(.object "java/math/BigDecimal"), .int, .int], some (.object "java/math/BigDecimal")⟩ := by decide +kernel
theorem pd17 : parseMethodDescriptor "(Ljava/math/BigDecimal;)Ljava/math/BigDecimal;" = some ⟨[(.object "java/math/BigDecimal")], some (.object "java/math/BigDecimal")⟩ := by decide +kernel
theorem pd18 : parseMethodDescriptor "(Ljava/math/BigDecimal;ILjava/math/RoundingMode;)Ljava/math/BigDecimal;" = some ⟨[(.object "java/math/BigDecimal"), .int, (.object "java/math/RoundingMode")], some (.object "java/math/BigDecimal")⟩ := by decide +kernel
theorem pd19 : parseMethodDescriptor "(II)I" = some ⟨[.int, .int], some .int⟩ := by decide +kernel
theorem pd20 : parseMethodDescriptor "(I)Lcom/example/indexwerk/indexwerk/Weight;" = some ⟨[.int], some (.object "com/example/indexwerk/indexwerk/Weight")⟩ := by decide +kernel
theorem pd21 : parseMethodDescriptor "(Ljava/math/BigDecimal;Ljava/math/BigDecimal;I)Ljava/math/BigDecimal;" = some ⟨[(.object "java/math/BigDecimal"), (.object "java/math/BigDecimal"), .int], some (.object "java/math/BigDecimal")⟩ := by decide +kernel
theorem pd22 : parseMethodDescriptor "(Ljava/lang/Object;)Z" = some ⟨[(.object "java/lang/Object")], some .boolean⟩ := by decide +kernel

theorem i64_mul {x y : Int64} {m n : Int} (hx : x.toInt = m) (hy : y.toInt = n) (h1 : -9223372036854775808 ≤ m * n) (h2 : m * n < 9223372036854775808) : (x * y).toInt = m * n := by
  rw [Int64.toInt_mul, hx, hy]; exact Int.bmod_eq_of_le (by simpa using h1) (by simpa using h2)
theorem i64_add {x y : Int64} {m n : Int} (hx : x.toInt = m) (hy : y.toInt = n) (h1 : -9223372036854775808 ≤ m + n) (h2 : m + n < 9223372036854775808) : (x + y).toInt = m + n := by
  rw [Int64.toInt_add, hx, hy]; exact Int.bmod_eq_of_le (by simpa using h1) (by simpa using h2)
theorem i64_sub {x y : Int64} {m n : Int} (hx : x.toInt = m) (hy : y.toInt = n) (h1 : -9223372036854775808 ≤ m - n) (h2 : m - n < 9223372036854775808) : (x - y).toInt = m - n := by
  rw [Int64.toInt_sub, hx, hy]; exact Int.bmod_eq_of_le (by simpa using h1) (by simpa using h2)
theorem i64_neg {x : Int64} {m : Int} (hx : x.toInt = m) (h1 : -9223372036854775808 < m) (h2 : m < 9223372036854775808) : (-x).toInt = -m := by
  rw [Int64.toInt_neg, hx]; exact Int.bmod_eq_of_le (by omega) (by omega)
theorem i64_div {x y : Int64} {m n : Int} (hx : x.toInt = m) (hy : y.toInt = n) (h1 : -9223372036854775808 ≤ m.tdiv n) (h2 : m.tdiv n < 9223372036854775808) : (x / y).toInt = m.tdiv n := by
  rw [Int64.toInt_div, hx, hy]; exact Int.bmod_eq_of_le (by simpa using h1) (by simpa using h2)
def hu (A B : Int) : Int := if 0 ≤ A then (2 * A + B) / (2 * B) else -((2 * (-A) + B) / (2 * B))
/-- a / b rounded half up is R -/
def DR (a b R : Int64) : Prop := (0 < b.toInt) ∧ (b.toInt < 1125899906842624) ∧ (-1125899906842624 < a.toInt) ∧ (a.toInt < 1125899906842624) ∧ (R.toInt = hu a.toInt b.toInt)
theorem DR.b0 {a b R : Int64} (D : DR a b R) : 0 < b.toInt := D.1
theorem DR.b1 {a b R : Int64} (D : DR a b R) : b.toInt < 1125899906842624 := D.2.1
theorem DR.a0 {a b R : Int64} (D : DR a b R) : -1125899906842624 < a.toInt := D.2.2.1
theorem DR.a1 {a b R : Int64} (D : DR a b R) : a.toInt < 1125899906842624 := D.2.2.2.1
theorem DR.r {a b R : Int64} (D : DR a b R) : R.toInt = hu a.toInt b.toInt := D.2.2.2.2
theorem hu_pos {A B : Int} (hA : 0 ≤ A) (hB : 0 < B) : hu A B = A / B + (if 2 * (A - A / B * B) < B then 0 else 1) := by
  have h0 := Int.emod_nonneg A (Int.ne_of_gt hB)
  have h1 := Int.emod_lt_of_pos A hB
  have h2 := Int.mul_ediv_add_emod A B
  have e : A - A / B * B = A % B := by rw [Int.mul_comm]; omega
  rw [e, hu, if_pos hA]
  have e3 : 2 * A + B = (2 * B) * (A / B) + (2 * (A % B) + B) := by
    rw [Int.mul_assoc]; omega
  rw [e3, Int.add_comm, Int.add_mul_ediv_left _ _ (by omega)]
  split
  · rw [Int.ediv_eq_zero_of_lt (by omega) (by omega)]; omega
  · have : (2 * (A % B) + B) / (2 * B) = 1 := by
      apply Int.le_antisymm
      · exact Int.lt_add_one_iff.mp (Int.ediv_lt_of_lt_mul (by omega) (by omega))
      · exact (Int.le_ediv_iff_mul_le (by omega)).mpr (by omega)
    omega
theorem tdiv_bound {A B : Int} (hB : 0 < B) (h1 : -1125899906842624 < A) (h2 : A < 1125899906842624) : -1125899906842624 < A.tdiv B ∧ A.tdiv B < 1125899906842624 := by
  have := Int.natAbs_tdiv_le_natAbs A B
  omega
theorem tdiv_mul_bound {A B : Int} (hB : 0 < B) (h1 : -1125899906842624 < A) (h2 : A < 1125899906842624) : -1125899906842624 < A.tdiv B * B ∧ A.tdiv B * B < 1125899906842624 := by
  by_cases hA : 0 ≤ A
  · rw [Int.tdiv_eq_ediv_of_nonneg hA]
    have := Int.mul_ediv_add_emod A B; have := Int.emod_nonneg A (Int.ne_of_gt hB); have := Int.emod_lt_of_pos A hB; have : 0 ≤ A / B := Int.ediv_nonneg hA (by omega)
    have : 0 ≤ A / B * B := Int.mul_nonneg this (by omega)
    rw [Int.mul_comm]; rw [Int.mul_comm] at this; omega
  · have e : A.tdiv B = -((-A) / B) := by rw [← Int.tdiv_eq_ediv_of_nonneg (by omega : 0 ≤ -A), Int.neg_tdiv]; omega
    rw [e]
    have := Int.mul_ediv_add_emod (-A) B; have := Int.emod_nonneg (-A) (Int.ne_of_gt hB); have := Int.emod_lt_of_pos (-A) hB; have : 0 ≤ (-A) / B := Int.ediv_nonneg (by omega) (by omega)
    have : 0 ≤ (-A) / B * B := Int.mul_nonneg this (by omega)
    rw [Int.neg_mul, Int.mul_comm]; rw [Int.mul_comm] at this; omega
theorem DR.q {a b R : Int64} (D : DR a b R) : (a / b).toInt = a.toInt.tdiv b.toInt := i64_div rfl rfl (by have := tdiv_bound D.b0 D.a0 D.a1; omega) (by have := tdiv_bound D.b0 D.a0 D.a1; omega)
theorem DR.rem {a b R : Int64} (D : DR a b R) : (a - a / b * b).toInt = a.toInt - a.toInt.tdiv b.toInt * b.toInt := by
  have h := tdiv_mul_bound D.b0 D.a0 D.a1; have := D.a0; have := D.a1
  exact i64_sub rfl (i64_mul D.q rfl (by omega) (by omega)) (by omega) (by omega)
theorem DR.val {a b R : Int64} (D : DR a b R) : R.toInt = a.toInt.tdiv b.toInt + (if 2 * ((a.toInt - a.toInt.tdiv b.toInt * b.toInt).natAbs : Int) < b.toInt then 0 else if a.toInt < 0 then -1 else 1) := by
  rw [D.r]
  have hB := D.b0
  by_cases hA : 0 ≤ a.toInt
  · rw [hu_pos hA hB, Int.tdiv_eq_ediv_of_nonneg hA, if_neg (by omega : ¬ a.toInt < 0)]
    have h0 := Int.emod_nonneg a.toInt (Int.ne_of_gt hB)
    have h2 := Int.mul_ediv_add_emod a.toInt b.toInt
    have e : a.toInt - a.toInt / b.toInt * b.toInt = a.toInt % b.toInt := by rw [Int.mul_comm]; omega
    rw [e, Int.natAbs_of_nonneg h0]
  · have hA' : 0 ≤ -a.toInt := by omega
    have e1 : hu a.toInt b.toInt = - hu (-a.toInt) b.toInt := by unfold hu; rw [if_neg hA, if_pos hA']
    have e2 : a.toInt.tdiv b.toInt = -((-a.toInt) / b.toInt) := by rw [← Int.tdiv_eq_ediv_of_nonneg hA', Int.neg_tdiv]; omega
    rw [e1, hu_pos hA' hB, e2, if_pos (by omega : a.toInt < 0)]
    have h0 := Int.emod_nonneg (-a.toInt) (Int.ne_of_gt hB)
    have h2 := Int.mul_ediv_add_emod (-a.toInt) b.toInt
    have e : -a.toInt - (-a.toInt) / b.toInt * b.toInt = (-a.toInt) % b.toInt := by rw [Int.mul_comm]; omega
    have e3 : (a.toInt - -(-a.toInt / b.toInt) * b.toInt) = -((-a.toInt) % b.toInt) := by rw [← e, Int.neg_mul]; omega
    rw [e, e3, Int.natAbs_neg, Int.natAbs_of_nonneg h0]
    split <;> omega
theorem DR.ne {a b R : Int64} (D : DR a b R) : ¬ R = (-9223372036854775808 : Int64) := by
  intro e
  have h := D.val; rw [e] at h
  have := tdiv_bound D.b0 D.a0 D.a1
  have e9 : (-9223372036854775808 : Int64).toInt = -9223372036854775808 := by decide
  rw [e9] at h
  split at h <;> (try split at h) <;> omega
theorem DR.bne {a b R : Int64} (D : DR a b R) : b ≠ 0 := fun e => absurd D.b0 (by rw [e]; decide)
theorem DR.bpos {a b R : Int64} (D : DR a b R) : ¬ b < 0 := by rw [Int64.lt_iff_toInt_lt]; have := D.b0; show ¬ _ < (0 : Int); omega
theorem DR.exact {a b R : Int64} (D : DR a b R) (h : a - a / b * b = 0) : a / b = R := by
  apply Int64.toInt_inj.mp
  rw [D.q, D.val]
  have := congrArg Int64.toInt h
  rw [D.rem] at this
  have e0 : (0 : Int64).toInt = 0 := rfl
  rw [this, e0]
  have := D.b0
  rw [if_pos (by simp; omega)]; omega
theorem DR.lo {a b R : Int64} (D : DR a b R) : (-4611686018427387904 : Int64) < a - a / b * b := by
  rw [Int64.lt_iff_toInt_lt, D.rem, show (-4611686018427387904 : Int64).toInt = -4611686018427387904 from by decide]
  have := tdiv_mul_bound D.b0 D.a0 D.a1; have := D.a0; omega
theorem DR.hi {a b R : Int64} (D : DR a b R) : ¬ (4611686018427387903 : Int64) < a - a / b * b := by
  rw [Int64.lt_iff_toInt_lt, D.rem, show (4611686018427387903 : Int64).toInt = 4611686018427387903 from by decide]
  have := tdiv_mul_bound D.b0 D.a0 D.a1; have := D.a1; omega
theorem DR.mag {a b R : Int64} (D : DR a b R) : ∃ m : Int64, ((2 * (a - a / b * b) < 0 ∧ m = -(2 * (a - a / b * b))) ∨ (¬ 2 * (a - a / b * b) < 0 ∧ m = 2 * (a - a / b * b))) ∧
    ((m < b ∧ a / b = R) ∨ (¬ m < b ∧ ((a < 0 ∧ a / b + (-1) = R) ∨ (¬ a < 0 ∧ a / b + 1 = R)))) := by
  have hr := D.rem; have hv := D.val; have hq := D.q
  have hb := tdiv_mul_bound D.b0 D.a0 D.a1; have hb' := tdiv_bound D.b0 D.a0 D.a1
  have a0 := D.a0; have a1 := D.a1
  generalize a - a / b * b = r at *
  generalize a / b = q at *
  generalize a.toInt.tdiv b.toInt * b.toInt = X at *
  generalize a.toInt.tdiv b.toInt = Y at *
  have h2 : (2 * r).toInt = 2 * r.toInt := i64_mul rfl rfl (by rw [hr]; omega) (by rw [hr]; omega)
  have hm1 : (q + (-1)).toInt = Y + (-1) := i64_add hq rfl (by omega) (by omega)
  have hm2 : (q + 1).toInt = Y + 1 := i64_add hq rfl (by omega) (by omega)
  have z0 : (0 : Int64).toInt = 0 := rfl
  have fin : ∀ m : Int64, m.toInt = 2 * ((a.toInt - X).natAbs : Int) → ((m < b ∧ q = R) ∨ (¬ m < b ∧ ((a < 0 ∧ q + (-1) = R) ∨ (¬ a < 0 ∧ q + 1 = R)))) := by
    intro m hm
    rw [Int64.lt_iff_toInt_lt, Int64.lt_iff_toInt_lt, ← Int64.toInt_inj, ← Int64.toInt_inj, ← Int64.toInt_inj, hm1, hm2, hq, hm, hv, z0]
    split
    · left; omega
    · right
      split
      · refine ⟨by omega, Or.inl ⟨by omega, by omega⟩⟩
      · refine ⟨by omega, Or.inr ⟨by omega, by omega⟩⟩
  by_cases h : 2 * r < 0
  · refine ⟨_, Or.inl ⟨h, rfl⟩, fin _ ?_⟩
    rw [Int64.lt_iff_toInt_lt, h2, z0] at h
    rw [i64_neg h2 (by omega) (by omega)]; omega
  · refine ⟨_, Or.inr ⟨h, rfl⟩, fin _ ?_⟩
    rw [Int64.lt_iff_toInt_lt, h2, z0] at h
    rw [h2]; omega
theorem and_close (c : Int32) : 1 ≤ ((c &&& 32767) + 1).toInt ∧ ((c &&& 32767) + 1).toInt ≤ 32768 := by
  have h : 0 ≤ (c &&& 32767).toInt ∧ (c &&& 32767).toInt ≤ 32767 := by
    have e : (c &&& 32767).toInt = ((c &&& 32767).toBitVec.toNat : Int) := by
      show (c &&& 32767).toBitVec.toInt = _
      rw [BitVec.toInt_eq_toNat_of_lt]
      have : (c &&& 32767).toBitVec.toNat ≤ 32767 := by
        show (c.toBitVec &&& 32767#32).toNat ≤ 32767
        rw [BitVec.toNat_and]; exact Nat.and_le_right
      omega
    have : (c &&& 32767).toBitVec.toNat ≤ 32767 := by
      show (c.toBitVec &&& 32767#32).toNat ≤ 32767
      rw [BitVec.toNat_and]; exact Nat.and_le_right
    rw [e]; omega
  rw [Int32.toInt_add]
  have e1 : (1 : Int32).toInt = 1 := rfl
  rw [e1, Int.bmod_eq_of_le (by omega) (by omega)]; omega
theorem and_big (c : Int32) : 0 ≤ (c &&& 2147483647).toInt := by
  have : (c &&& 2147483647).toBitVec.toNat ≤ 2147483647 := by
    show (c.toBitVec &&& 2147483647#32).toNat ≤ 2147483647
    rw [BitVec.toNat_and]; exact Nat.and_le_right
  show 0 ≤ (c &&& 2147483647).toBitVec.toInt
  rw [BitVec.toInt_eq_toNat_of_lt (by omega)]; omega
theorem rem3 {k : Int32} (h : 0 ≤ k.toInt) : k - (k / 3) * 3 = 0 ∨ k - (k / 3) * 3 = 1 ∨ k - (k / 3) * 3 = 2 := by
  have h2 := k.toInt_lt
  have e3 : (3 : Int32).toInt = 3 := rfl
  have q : (k / 3).toInt = k.toInt / 3 := by
    rw [Int32.toInt_div, e3, Int.tdiv_eq_ediv_of_nonneg h]; exact Int.bmod_eq_of_le (by omega) (by omega)
  have m : (k / 3 * 3).toInt = k.toInt / 3 * 3 := by
    rw [Int32.toInt_mul, q, e3]; exact Int.bmod_eq_of_le (by omega) (by omega)
  have r : (k - k / 3 * 3).toInt = k.toInt - k.toInt / 3 * 3 := by
    rw [Int32.toInt_sub, m]; exact Int.bmod_eq_of_le (by omega) (by omega)
  rw [← Int32.toInt_inj, ← Int32.toInt_inj, ← Int32.toInt_inj, r, show (0 : Int32).toInt = 0 from rfl, show (1 : Int32).toInt = 1 from rfl, show (2 : Int32).toInt = 2 from rfl]; omega
theorem i32_64 (x : Int32) : x.toInt64.toInt = x.toInt := Int32.toInt_toInt64 x
/-- the law's expected answer -/
theorem dr_law (v n c : Int32) (S w : Int64) (hS : S.toInt = 1 ∨ S.toInt = 10 ∨ S.toInt = 100) (hn : 1 ≤ n.toInt) (r : Int64)
    (hw : (v.toInt64 < 0 ∧ w = -v.toInt64 ∧ r = -((2 * (w * S) + n.toInt64 * ((c &&& 32767) + 1).toInt64) / (2 * (n.toInt64 * ((c &&& 32767) + 1).toInt64)))) ∨ (¬ v.toInt64 < 0 ∧ w = v.toInt64 ∧ r = ((2 * (w * S) + n.toInt64 * ((c &&& 32767) + 1).toInt64) / (2 * (n.toInt64 * ((c &&& 32767) + 1).toInt64))))) :
    DR (v.toInt64 * S) (n.toInt64 * ((c &&& 32767) + 1).toInt64) r := by
  obtain ⟨c1, c2⟩ := and_close c
  generalize (c &&& 32767) + 1 = k at *
  have n2 := n.toInt_lt; have v1 := v.le_toInt; have v2 := v.toInt_lt
  have hq1 : 1 ≤ n.toInt * k.toInt := by have := Int.mul_le_mul hn c1 (by omega) (by omega); omega
  have hq2 : n.toInt * k.toInt ≤ 2147483647 * 32768 := Int.mul_le_mul (by omega) c2 (by omega) (by omega)
  have hq : (n.toInt64 * k.toInt64).toInt = n.toInt * k.toInt := i64_mul (i32_64 n) (i32_64 k) (by omega) (by omega)
  generalize n.toInt64 * k.toInt64 = q at *
  generalize n.toInt * k.toInt = Q at *
  have z0 : (0 : Int64).toInt = 0 := rfl
  have hvS : (v.toInt64 * S).toInt = v.toInt * S.toInt := i64_mul (i32_64 v) rfl (by rcases hS with e | e | e <;> rw [e] <;> omega) (by rcases hS with e | e | e <;> rw [e] <;> omega)
  have hww : w.toInt = (v.toInt.natAbs : Int) := by
    rcases hw with ⟨h, rfl, -⟩ | ⟨h, rfl, -⟩ <;> rw [Int64.lt_iff_toInt_lt, i32_64, z0] at h
    · rw [i64_neg (i32_64 v) (by omega) (by omega)]; omega
    · rw [i32_64]; omega
  have hwS : (w * S).toInt = (v.toInt.natAbs : Int) * S.toInt := i64_mul hww rfl (by rcases hS with e | e | e <;> rw [e] <;> omega) (by rcases hS with e | e | e <;> rw [e] <;> omega)
  have hA : (v.toInt.natAbs : Int) * S.toInt ≤ 214748364800 ∧ 0 ≤ (v.toInt.natAbs : Int) * S.toInt := by rcases hS with e | e | e <;> rw [e] <;> omega
  have hvA : v.toInt * S.toInt = if v.toInt < 0 then -((v.toInt.natAbs : Int) * S.toInt) else (v.toInt.natAbs : Int) * S.toInt := by
    split <;> rcases hS with e | e | e <;> rw [e] <;> omega
  have h2A : (2 * (w * S)).toInt = 2 * ((v.toInt.natAbs : Int) * S.toInt) := i64_mul rfl hwS (by omega) (by omega)
  have hS2 : (2 * (w * S) + q).toInt = 2 * ((v.toInt.natAbs : Int) * S.toInt) + Q := i64_add h2A hq (by omega) (by omega)
  have h2q : (2 * q).toInt = 2 * Q := i64_mul rfl hq (by omega) (by omega)
  generalize hAA : (v.toInt.natAbs : Int) * S.toInt = A at *
  have hb : 0 ≤ (2 * A + Q) / (2 * Q) := Int.ediv_nonneg (by omega) (by omega)
  have hb2 : (2 * A + Q) / (2 * Q) ≤ 2 * A + Q := Int.ediv_le_self _ (by omega)
  have hd : ((2 * (w * S) + q) / (2 * q)).toInt = (2 * A + Q) / (2 * Q) := by
    have e := Int.tdiv_eq_ediv_of_nonneg (a := 2 * A + Q) (b := 2 * Q) (by omega)
    rw [← e] at hb hb2 ⊢
    exact i64_div hS2 h2q (by omega) (by omega)
  unfold DR
  refine ⟨by rw [hq]; omega, by rw [hq]; omega, by rw [hvS, hvA]; split <;> omega, by rw [hvS, hvA]; split <;> omega, ?_⟩
  rw [hvS, hq, hvA]
  rcases hw with ⟨h, -, rfl⟩ | ⟨h, -, rfl⟩ <;> rw [Int64.lt_iff_toInt_lt, i32_64, z0] at h
  · rw [i64_neg hd (by omega) (by omega), if_pos h, hu]
    have hpos : 0 < A := by rcases hS with e | e | e <;> rw [e] at hAA <;> omega
    rw [if_neg (by omega), Int.neg_neg]
  · rw [hd, if_neg h, hu, if_pos (by omega)]
/-- a product of longs that is no overflow -/
theorem mul_back {x y : Int64} {m n : Int} (hx : x.toInt = m) (hy : y.toInt = n) (h1 : -1125899906842624 ≤ m * n) (h2 : m * n < 1125899906842624) (hy0 : ¬ y = 0) : x * y / y = x := by
  have hn : n ≠ 0 := fun e => hy0 (Int64.toInt_inj.mp (by rw [hy, e]; rfl))
  apply Int64.toInt_inj.mp
  have hm := Int.mul_tdiv_cancel m hn
  have e := i64_div (x := x * y) (y := y) (i64_mul hx hy (by omega) (by omega)) hy (by rw [hm]; have := x.le_toInt; omega) (by rw [hm]; have := x.toInt_lt; omega)
  rw [e, hm, hx]

theorem DR.ane {a b R : Int64} (D : DR a b R) : ¬ a = (-9223372036854775808 : Int64) := fun e => by
  have := D.a0; rw [e, show (-9223372036854775808 : Int64).toInt = -9223372036854775808 from by decide] at this; omega
theorem DR.bmin {a b R : Int64} (D : DR a b R) : ¬ b = (-9223372036854775808 : Int64) := fun e => by
  have := D.b0; rw [e, show (-9223372036854775808 : Int64).toInt = -9223372036854775808 from by decide] at this; omega
theorem DR.one {a b R : Int64} (D : DR (a * 1) b R) : DR a b R := Int64.mul_one a ▸ D
theorem own_abs (x : Int64) : ∃ m : Int64, (x < 0 ∧ m = -x) ∨ (¬ x < 0 ∧ m = x) := (Decidable.em (x < 0)).elim (fun q => ⟨_, Or.inl ⟨q, rfl⟩⟩) (fun q => ⟨_, Or.inr ⟨q, rfl⟩⟩)
theorem own_max (k : Int32) : ∃ r : Int32, (((1 : Int32) < k ∧ r = k) ∨ (¬ (1 : Int32) < k ∧ r = 1)) ∧ 1 ≤ r.toInt := by
  by_cases q : (1 : Int32) < k
  · refine ⟨k, Or.inl ⟨q, rfl⟩, ?_⟩
    rw [Int32.lt_iff_toInt_lt, show (1 : Int32).toInt = 1 from rfl] at q; omega
  · exact ⟨1, Or.inr ⟨q, rfl⟩, by decide⟩
theorem own_i32ne (v : Int32) : ¬ v.toInt64 = (-9223372036854775808 : Int64) := fun e => by
  have h := congrArg Int64.toInt e; rw [i32_64, show (-9223372036854775808 : Int64).toInt = -9223372036854775808 from by decide] at h
  have := v.le_toInt; omega
theorem own_thr (v : Int32) (T : Int64) (hT : 2147483648 ≤ T.toInt) (m : Int64) (hm : (v.toInt64 < 0 ∧ m = -v.toInt64) ∨ (¬ v.toInt64 < 0 ∧ m = v.toInt64)) : ¬ T < m := by
  have v1 := v.le_toInt; have v2 := v.toInt_lt
  rw [Int64.lt_iff_toInt_lt]
  rcases hm with ⟨-, rfl⟩ | ⟨-, rfl⟩
  · rw [i64_neg (i32_64 v) (by omega) (by omega)]; omega
  · rw [i32_64]; omega
theorem own_q (n c : Int32) (hn : 1 ≤ n.toInt) : (n.toInt64 * ((c &&& 32767) + 1).toInt64).toInt = n.toInt * ((c &&& 32767) + 1).toInt ∧ 1 ≤ n.toInt * ((c &&& 32767) + 1).toInt ∧ n.toInt * ((c &&& 32767) + 1).toInt ≤ 70368744177664 := by
  obtain ⟨c1, c2⟩ := and_close c
  have n2 := n.toInt_lt
  have hq1 : 1 ≤ n.toInt * ((c &&& 32767) + 1).toInt := by have := Int.mul_le_mul hn c1 (by omega) (by omega); omega
  have hq2 : n.toInt * ((c &&& 32767) + 1).toInt ≤ 2147483647 * 32768 := Int.mul_le_mul (by omega) c2 (by omega) (by omega)
  exact ⟨i64_mul (i32_64 _) (i32_64 _) (by omega) (by omega), hq1, by omega⟩
theorem own_2q (n c : Int32) (hn : 1 ≤ n.toInt) : (2 : Int64) * (n.toInt64 * ((c &&& 32767) + 1).toInt64) ≠ 0 := fun e => by
  obtain ⟨h1, h2, h3⟩ := own_q n c hn
  have h := congrArg Int64.toInt e
  have h' : ((2 : Int64) * (n.toInt64 * ((c &&& 32767) + 1).toInt64)).toInt = 2 * (n.toInt * ((c &&& 32767) + 1).toInt) := i64_mul rfl h1 (by omega) (by omega)
  rw [h', show (0 : Int64).toInt = 0 from rfl] at h; omega
theorem own_qback (n c : Int32) (hn : 1 ≤ n.toInt) : ¬ ((c &&& 32767) + 1).toInt64 = 0 → n.toInt64 * ((c &&& 32767) + 1).toInt64 / ((c &&& 32767) + 1).toInt64 = n.toInt64 := fun h => by
  obtain ⟨-, h2, h3⟩ := own_q n c hn
  exact mul_back (i32_64 _) (i32_64 _) (by omega) (by omega) h
theorem own_vback (v : Int32) : ¬ v.toInt64 = 0 → (1 : Int64) * v.toInt64 / v.toInt64 = 1 := fun h => by
  have v1 := v.le_toInt; have v2 := v.toInt_lt
  exact mul_back (m := 1) rfl (i32_64 _) (by omega) (by omega) h
theorem own_small {v : Int64} (h0 : ¬ v < 0) (h1 : v < Int32.toInt64 11) : ∃ i, i < 11 ∧ ¬ v.toInt32 < 0 ∧ v.toInt32.toNatClampNeg = i ∧ Int64.ofNat i = v := by
  rw [Int64.lt_iff_toInt_lt, show (0 : Int64).toInt = 0 from rfl] at h0
  rw [Int64.lt_iff_toInt_lt, i32_64, show (11 : Int32).toInt = 11 from rfl] at h1
  have e : v.toInt32.toInt = v.toInt := by rw [Int64.toInt_toInt32]; exact Int.bmod_eq_of_le (by omega) (by omega)
  refine ⟨v.toInt.toNat, by omega, ?_, ?_, ?_⟩
  · rw [Int32.lt_iff_toInt_lt, e, show (0 : Int32).toInt = 0 from rfl]; omega
  · show v.toInt32.toInt.toNat = _; rw [e]
  · apply Int64.toInt_inj.mp
    rw [Int64.toInt_ofNat_of_lt (by omega), Int.toNat_of_nonneg (by omega)]
theorem own_cmp (m b : Int64) {z : Int32} (hz : (m < b ∧ z = 0) ∨ (¬ m < b ∧ z = 1)) : ∃ c : Int32, ((m < b ∧ c = -1) ∨ (¬ m < b ∧ m = b ∧ c = 0) ∨ (¬ m < b ∧ ¬ m = b ∧ c = 1)) ∧ ((c < 0 ∧ z = 0) ∨ (¬ c < 0 ∧ z = 1)) := by
  rcases hz with ⟨h, e⟩ | ⟨h, e⟩
  · exact ⟨-1, Or.inl ⟨h, rfl⟩, Or.inl ⟨by decide, e⟩⟩
  · by_cases h2 : m = b
    · exact ⟨0, Or.inr (Or.inl ⟨h, h2, rfl⟩), Or.inr ⟨by decide, e⟩⟩
    · exact ⟨1, Or.inr (Or.inr ⟨h, h2, rfl⟩), Or.inr ⟨by decide, e⟩⟩

/-- a BigDecimal that keeps its number in a long -/
def Bd (Z : State) (h : Heap) (x : Addr) (v : Int64) (s : Int32) : Prop := Exa Z h x "java/math/BigDecimal" ∧ Fld Z h x "java/math/BigDecimal" "scale" "I" (.int s) ∧ Fld Z h x "java/math/BigDecimal" "intCompact" "J" (.long v)
theorem Bd.kq {Z : State} {h h' : Heap} {x : Addr} {v : Int64} {s : Int32} (B : Bd Z h x v s) (K : Kq h h' noW) : Bd Z h' x v s := ⟨B.1.kq K, B.2.1.kq K (fun q => q), B.2.2.kq K (fun q => q)⟩
/-- the JDK's statics that the law reads -/
def Sx (Z : State) (one z10 zs tp th hu : Addr) (f g t1 t2 : Nat → Value) : Prop := (Sta Z Z.heap "java/math/BigDecimal" "ONE" "Ljava/math/BigDecimal;" (.ref one)) ∧ (Bd Z Z.heap one 1 0) ∧ (Sta Z Z.heap "java/math/BigDecimal" "ZERO_THROUGH_TEN" "[Ljava/math/BigDecimal;" (.ref z10)) ∧ (Av Z Z.heap z10 (.object "java/math/BigDecimal") 11 f) ∧ (∀ i, i < 11 → ∃ x, f i = .ref x ∧ Bd Z Z.heap x (Int64.ofNat i) 0) ∧ (Sta Z Z.heap "java/math/BigDecimal" "ZERO_SCALED_BY" "[Ljava/math/BigDecimal;" (.ref zs)) ∧ (Av Z Z.heap zs (.object "java/math/BigDecimal") 16 g) ∧ (∃ x, g 1 = .ref x ∧ Bd Z Z.heap x 0 1) ∧ (∃ x, g 2 = .ref x ∧ Bd Z Z.heap x 0 2) ∧ (Sta Z Z.heap "java/math/BigDecimal" "LONG_TEN_POWERS_TABLE" "[J" (.ref tp)) ∧ (Av Z Z.heap tp .long 19 t1) ∧ (t1 1 = .long 10) ∧ (t1 2 = .long 100) ∧ (Sta Z Z.heap "java/math/BigDecimal" "THRESHOLDS_TABLE" "[J" (.ref th)) ∧ (Av Z Z.heap th .long 19 t2) ∧ (t2 1 = .long 922337203685477580) ∧ (t2 2 = .long 92233720368547758) ∧ (Sta Z Z.heap "java/math/BigDecimal" "$assertionsDisabled" "Z" (.int 1)) ∧ (Sta Z Z.heap "java/math/RoundingMode" "HALF_UP" "Ljava/math/RoundingMode;" (.ref hu)) ∧ (Fld Z Z.heap hu "java/math/RoundingMode" "oldMode" "I" (.int 4))
theorem Sx.s1 {Z : State} {one z10 zs tp th hu : Addr} {f g t1 t2 : Nat → Value} (D : Sx Z one z10 zs tp th hu f g t1 t2) : Sta Z Z.heap "java/math/BigDecimal" "ONE" "Ljava/math/BigDecimal;" (.ref one) := D.1
theorem Sx.b1 {Z : State} {one z10 zs tp th hu : Addr} {f g t1 t2 : Nat → Value} (D : Sx Z one z10 zs tp th hu f g t1 t2) : Bd Z Z.heap one 1 0 := D.2.1
theorem Sx.s2 {Z : State} {one z10 zs tp th hu : Addr} {f g t1 t2 : Nat → Value} (D : Sx Z one z10 zs tp th hu f g t1 t2) : Sta Z Z.heap "java/math/BigDecimal" "ZERO_THROUGH_TEN" "[Ljava/math/BigDecimal;" (.ref z10) := D.2.2.1
theorem Sx.a2 {Z : State} {one z10 zs tp th hu : Addr} {f g t1 t2 : Nat → Value} (D : Sx Z one z10 zs tp th hu f g t1 t2) : Av Z Z.heap z10 (.object "java/math/BigDecimal") 11 f := D.2.2.2.1
theorem Sx.e2 {Z : State} {one z10 zs tp th hu : Addr} {f g t1 t2 : Nat → Value} (D : Sx Z one z10 zs tp th hu f g t1 t2) : ∀ i, i < 11 → ∃ x, f i = .ref x ∧ Bd Z Z.heap x (Int64.ofNat i) 0 := D.2.2.2.2.1
theorem Sx.s3 {Z : State} {one z10 zs tp th hu : Addr} {f g t1 t2 : Nat → Value} (D : Sx Z one z10 zs tp th hu f g t1 t2) : Sta Z Z.heap "java/math/BigDecimal" "ZERO_SCALED_BY" "[Ljava/math/BigDecimal;" (.ref zs) := D.2.2.2.2.2.1
theorem Sx.a3 {Z : State} {one z10 zs tp th hu : Addr} {f g t1 t2 : Nat → Value} (D : Sx Z one z10 zs tp th hu f g t1 t2) : Av Z Z.heap zs (.object "java/math/BigDecimal") 16 g := D.2.2.2.2.2.2.1
theorem Sx.e31 {Z : State} {one z10 zs tp th hu : Addr} {f g t1 t2 : Nat → Value} (D : Sx Z one z10 zs tp th hu f g t1 t2) : ∃ x, g 1 = .ref x ∧ Bd Z Z.heap x 0 1 := D.2.2.2.2.2.2.2.1
theorem Sx.e32 {Z : State} {one z10 zs tp th hu : Addr} {f g t1 t2 : Nat → Value} (D : Sx Z one z10 zs tp th hu f g t1 t2) : ∃ x, g 2 = .ref x ∧ Bd Z Z.heap x 0 2 := D.2.2.2.2.2.2.2.2.1
theorem Sx.s4 {Z : State} {one z10 zs tp th hu : Addr} {f g t1 t2 : Nat → Value} (D : Sx Z one z10 zs tp th hu f g t1 t2) : Sta Z Z.heap "java/math/BigDecimal" "LONG_TEN_POWERS_TABLE" "[J" (.ref tp) := D.2.2.2.2.2.2.2.2.2.1
theorem Sx.a4 {Z : State} {one z10 zs tp th hu : Addr} {f g t1 t2 : Nat → Value} (D : Sx Z one z10 zs tp th hu f g t1 t2) : Av Z Z.heap tp .long 19 t1 := D.2.2.2.2.2.2.2.2.2.2.1
theorem Sx.p1 {Z : State} {one z10 zs tp th hu : Addr} {f g t1 t2 : Nat → Value} (D : Sx Z one z10 zs tp th hu f g t1 t2) : t1 1 = .long 10 := D.2.2.2.2.2.2.2.2.2.2.2.1
theorem Sx.p2 {Z : State} {one z10 zs tp th hu : Addr} {f g t1 t2 : Nat → Value} (D : Sx Z one z10 zs tp th hu f g t1 t2) : t1 2 = .long 100 := D.2.2.2.2.2.2.2.2.2.2.2.2.1
theorem Sx.s5 {Z : State} {one z10 zs tp th hu : Addr} {f g t1 t2 : Nat → Value} (D : Sx Z one z10 zs tp th hu f g t1 t2) : Sta Z Z.heap "java/math/BigDecimal" "THRESHOLDS_TABLE" "[J" (.ref th) := D.2.2.2.2.2.2.2.2.2.2.2.2.2.1
theorem Sx.a5 {Z : State} {one z10 zs tp th hu : Addr} {f g t1 t2 : Nat → Value} (D : Sx Z one z10 zs tp th hu f g t1 t2) : Av Z Z.heap th .long 19 t2 := D.2.2.2.2.2.2.2.2.2.2.2.2.2.2.1
theorem Sx.q1 {Z : State} {one z10 zs tp th hu : Addr} {f g t1 t2 : Nat → Value} (D : Sx Z one z10 zs tp th hu f g t1 t2) : t2 1 = .long 922337203685477580 := D.2.2.2.2.2.2.2.2.2.2.2.2.2.2.2.1
theorem Sx.q2 {Z : State} {one z10 zs tp th hu : Addr} {f g t1 t2 : Nat → Value} (D : Sx Z one z10 zs tp th hu f g t1 t2) : t2 2 = .long 92233720368547758 := D.2.2.2.2.2.2.2.2.2.2.2.2.2.2.2.2.1
theorem Sx.s6 {Z : State} {one z10 zs tp th hu : Addr} {f g t1 t2 : Nat → Value} (D : Sx Z one z10 zs tp th hu f g t1 t2) : Sta Z Z.heap "java/math/BigDecimal" "$assertionsDisabled" "Z" (.int 1) := D.2.2.2.2.2.2.2.2.2.2.2.2.2.2.2.2.2.1
theorem Sx.s7 {Z : State} {one z10 zs tp th hu : Addr} {f g t1 t2 : Nat → Value} (D : Sx Z one z10 zs tp th hu f g t1 t2) : Sta Z Z.heap "java/math/RoundingMode" "HALF_UP" "Ljava/math/RoundingMode;" (.ref hu) := D.2.2.2.2.2.2.2.2.2.2.2.2.2.2.2.2.2.2.1
theorem Sx.f7 {Z : State} {one z10 zs tp th hu : Addr} {f g t1 t2 : Nat → Value} (D : Sx Z one z10 zs tp th hu f g t1 t2) : Fld Z Z.heap hu "java/math/RoundingMode" "oldMode" "I" (.int 4) := D.2.2.2.2.2.2.2.2.2.2.2.2.2.2.2.2.2.2.2
theorem own_av {s : State} {args : Array Value} {t : Term} {ty : FieldType} {n : Int32} (m : Nat) (hm : n.toInt = m) (ha : (Cond.arrayOf t ty).before args s = true) (hl : (Cond.eq (.length t) (.int n)).before args s = true) :
    ∃ a, ∃ f : Nat → Value, t.eval args s none [] s = some (.ref a) ∧ Av s s.heap a ty m f ∧ ∀ (i : Int32) v, (Term.elem t (.int i)).eval args s none [] s = some v → f i.toNatClampNeg = v := by
  obtain ⟨a, ev⟩ := arr_v (Cond.before_iff.mp ha)
  obtain ⟨c, A⟩ := Arr.start ev (Cond.before_iff.mp ha)
  have hl' := Cond.eq_int hl rfl
  have fin := A.fin (Vm.Alike.refl s.vm)
  have h31 := Jvm.Free.SBG.length_lt ev fin hl'
  have e : (Term.length t).eval args s none [] s = some (.int (Int32.ofNat c.slots.size)) := by simp [Term.eval, ev, fin, h31]
  have h2 : Int32.ofNat c.slots.size = n := by simpa using Option.some.inj (e.symm.trans hl')
  have h3 := congrArg Int32.toInt h2
  rw [Int32.toInt_ofNat_small h31, hm] at h3
  refine ⟨a, fun i => c.slots[i]?.getD .null, ev, ⟨c, A, by omega, by omega, fun i hi => ?_⟩, fun i v he => ?_⟩
  · show c.slots[i]? = some (c.slots[i]?.getD .null)
    rw [Array.getElem?_eq_getElem (by omega : i < c.slots.size)]; rfl
  · show c.slots[i.toNatClampNeg]?.getD .null = v
    rw [(elem_in he ev rfl A.1).2]; rfl
theorem own_bd {s : State} {args : Array Value} {t : Term} {k : Int32} {v : Int64} (h1 : (Cond.exactly t "java/math/BigDecimal").before args s = true) (h2 : (Cond.eq (.field t "java/math/BigDecimal" "scale" "I") (.int k)).before args s = true) (h3 : (Cond.eq (.field t "java/math/BigDecimal" "intCompact" "J") (.long v)).before args s = true) :
    ∃ x, t.eval args s none [] s = some (.ref x) ∧ Bd s s.heap x v k := by
  obtain ⟨x, ev⟩ := exa_v (Cond.before_iff.mp h1)
  exact ⟨x, ev, Exa.start ev (Cond.before_iff.mp h1), Fld.start ((fld_at ev).symm.trans (Cond.eq_int h2 rfl)), Fld.start ((fld_at ev).symm.trans (Cond.eq_long h3 rfl))⟩
set_option maxRecDepth 65536 in
set_option maxHeartbeats 40000000 in
theorem own_sx {s : State} {args : Array Value} (hs : ∀ c ∈ jdkStatics_1, c.before args s = true) : ∃ one z10 zs tp th hu f g t1 t2, Sx s one z10 zs tp th hu f g t1 t2 := by
  obtain ⟨one, e1, b1⟩ := own_bd (hs _ (List.mem_of_getElem? (i := 4) rfl)) (hs _ (List.mem_of_getElem? (i := 5) rfl)) (hs _ (List.mem_of_getElem? (i := 6) rfl))
  obtain ⟨z10, f, e2, a2, k2⟩ := own_av 11 rfl (hs _ (List.mem_of_getElem? (i := 32) rfl)) (hs _ (List.mem_of_getElem? (i := 34) rfl))
  obtain ⟨zs, g, e3, a3, k3⟩ := own_av 16 rfl (hs _ (List.mem_of_getElem? (i := 194) rfl)) (hs _ (List.mem_of_getElem? (i := 196) rfl))
  obtain ⟨tp, t1, e4, a4, k4⟩ := own_av 19 rfl (hs _ (List.mem_of_getElem? (i := 139) rfl)) (hs _ (List.mem_of_getElem? (i := 141) rfl))
  obtain ⟨th, t2, e5, a5, k5⟩ := own_av 19 rfl (hs _ (List.mem_of_getElem? (i := 163) rfl)) (hs _ (List.mem_of_getElem? (i := 165) rfl))
  obtain ⟨hu, e7⟩ := exa_v (Cond.before_iff.mp (hs _ (List.mem_of_getElem? (i := 133) rfl)))
  obtain ⟨y1, ey1, B1⟩ := own_bd (hs _ (List.mem_of_getElem? (i := 207) rfl)) (hs _ (List.mem_of_getElem? (i := 208) rfl)) (hs _ (List.mem_of_getElem? (i := 209) rfl))
  obtain ⟨y2, ey2, B2⟩ := own_bd (hs _ (List.mem_of_getElem? (i := 216) rfl)) (hs _ (List.mem_of_getElem? (i := 217) rfl)) (hs _ (List.mem_of_getElem? (i := 218) rfl))
  refine ⟨one, z10, zs, tp, th, hu, f, g, t1, t2, show _ ∧ _ from ⟨Sta.start e1 (Or.inl (hs _ (List.mem_of_getElem? (i := 1) rfl))), b1, Sta.start e2 (Or.inl (hs _ (List.mem_of_getElem? (i := 15) rfl))), a2, fun i hi => ?_, Sta.start e3 (Or.inl (hs _ (List.mem_of_getElem? (i := 189) rfl))), a3, ⟨y1, k3 1 _ ey1, B1⟩, ⟨y2, k3 2 _ ey2, B2⟩,
    Sta.start e4 (Or.inl (hs _ (List.mem_of_getElem? (i := 138) rfl))), a4, k4 1 _ (Cond.eq_long (hs _ (List.mem_of_getElem? (i := 143) rfl)) rfl), k4 2 _ (Cond.eq_long (hs _ (List.mem_of_getElem? (i := 144) rfl)) rfl),
    Sta.start e5 (Or.inl (hs _ (List.mem_of_getElem? (i := 162) rfl))), a5, k5 1 _ (Cond.eq_long (hs _ (List.mem_of_getElem? (i := 167) rfl)) rfl), k5 2 _ (Cond.eq_long (hs _ (List.mem_of_getElem? (i := 168) rfl)) rfl),
    Sta.start (Cond.eq_int (hs _ (List.mem_of_getElem? (i := 187) rfl)) rfl) (Or.inl (hs _ (List.mem_of_getElem? (i := 186) rfl))), Sta.start e7 (Or.inl (hs _ (List.mem_of_getElem? (i := 132) rfl))), Fld.start ((fld_at e7).symm.trans (Cond.eq_int (hs _ (List.mem_of_getElem? (i := 136) rfl)) rfl))⟩⟩
  have hc : i = 0 ∨ i = 1 ∨ i = 2 ∨ i = 3 ∨ i = 4 ∨ i = 5 ∨ i = 6 ∨ i = 7 ∨ i = 8 ∨ i = 9 ∨ i = 10 := by omega
  rcases hc with rfl | rfl | rfl | rfl | rfl | rfl | rfl | rfl | rfl | rfl | rfl
  · obtain ⟨y, ey, B⟩ := own_bd (hs _ (List.mem_of_getElem? (i := 36) rfl)) (hs _ (List.mem_of_getElem? (i := 37) rfl)) (hs _ (List.mem_of_getElem? (i := 38) rfl)); exact ⟨y, k2 0 _ ey, B⟩
  · obtain ⟨y, ey, B⟩ := own_bd (hs _ (List.mem_of_getElem? (i := 46) rfl)) (hs _ (List.mem_of_getElem? (i := 47) rfl)) (hs _ (List.mem_of_getElem? (i := 48) rfl)); exact ⟨y, k2 1 _ ey, B⟩
  · obtain ⟨y, ey, B⟩ := own_bd (hs _ (List.mem_of_getElem? (i := 56) rfl)) (hs _ (List.mem_of_getElem? (i := 57) rfl)) (hs _ (List.mem_of_getElem? (i := 58) rfl)); exact ⟨y, k2 2 _ ey, B⟩
  · obtain ⟨y, ey, B⟩ := own_bd (hs _ (List.mem_of_getElem? (i := 65) rfl)) (hs _ (List.mem_of_getElem? (i := 66) rfl)) (hs _ (List.mem_of_getElem? (i := 67) rfl)); exact ⟨y, k2 3 _ ey, B⟩
  · obtain ⟨y, ey, B⟩ := own_bd (hs _ (List.mem_of_getElem? (i := 73) rfl)) (hs _ (List.mem_of_getElem? (i := 74) rfl)) (hs _ (List.mem_of_getElem? (i := 75) rfl)); exact ⟨y, k2 4 _ ey, B⟩
  · obtain ⟨y, ey, B⟩ := own_bd (hs _ (List.mem_of_getElem? (i := 81) rfl)) (hs _ (List.mem_of_getElem? (i := 82) rfl)) (hs _ (List.mem_of_getElem? (i := 83) rfl)); exact ⟨y, k2 5 _ ey, B⟩
  · obtain ⟨y, ey, B⟩ := own_bd (hs _ (List.mem_of_getElem? (i := 89) rfl)) (hs _ (List.mem_of_getElem? (i := 90) rfl)) (hs _ (List.mem_of_getElem? (i := 91) rfl)); exact ⟨y, k2 6 _ ey, B⟩
  · obtain ⟨y, ey, B⟩ := own_bd (hs _ (List.mem_of_getElem? (i := 97) rfl)) (hs _ (List.mem_of_getElem? (i := 98) rfl)) (hs _ (List.mem_of_getElem? (i := 99) rfl)); exact ⟨y, k2 7 _ ey, B⟩
  · obtain ⟨y, ey, B⟩ := own_bd (hs _ (List.mem_of_getElem? (i := 105) rfl)) (hs _ (List.mem_of_getElem? (i := 106) rfl)) (hs _ (List.mem_of_getElem? (i := 107) rfl)); exact ⟨y, k2 8 _ ey, B⟩
  · obtain ⟨y, ey, B⟩ := own_bd (hs _ (List.mem_of_getElem? (i := 113) rfl)) (hs _ (List.mem_of_getElem? (i := 114) rfl)) (hs _ (List.mem_of_getElem? (i := 115) rfl)); exact ⟨y, k2 9 _ ey, B⟩
  · obtain ⟨y, ey, B⟩ := own_bd (hs _ (List.mem_of_getElem? (i := 122) rfl)) (hs _ (List.mem_of_getElem? (i := 123) rfl)) (hs _ (List.mem_of_getElem? (i := 124) rfl)); exact ⟨y, k2 10 _ ey, B⟩

set_option maxRecDepth 65536 in
set_option maxHeartbeats 40000000 in
theorem c_max {Z : State} {a0 : Array Value} (hw : ∀ d ∈ tables_1, d.before a0 Z = true) {h : Heap} {Ts : TsT} {Li : LiT} (i j r : Int32) (h1 : (i < j ∧ r = j) ∨ (¬ i < j ∧ r = i)) :
    Con Z (⟨"java/lang/Math", "max", "(II)I"⟩ : MethodName) jdk_29_method_65_code 2 (some .int) ({ frames := 0, cells := 0, slots := 0, locals := 0 } : Room) [(.int i), (.int j)] h Ts Li (noW) (Pu (some (.int r)) h Ts Li) := by
  refine Con.of (ws := Fw h noW) (Ls := #[.val (.int i), .val (.int j)]) (by decide +kernel) (fun m => by first | rfl | (simp [entryFrame, mkF, argsToLocals, Value.category]; done)) (fun E0 => ?_)
  refine Walk.iloadN (pc' := 1) d_jdk_29_method_65_code_0 rfl ?_
  refine Walk.iloadN (pc' := 2) d_jdk_29_method_65_code_1 rfl ?_
  rcases h1 with ⟨h1, rfl⟩ | ⟨h1, rfl⟩
  · skip
    refine Walk.icYes (pc' := 9) d_jdk_29_method_65_code_2 (XT.ii_lt_t h1) ?_
    refine Walk.iloadN (pc' := 10) d_jdk_29_method_65_code_9 rfl ?_
    exact Walk.iret d_jdk_29_method_65_code_10 rfl ⟨rfl, rfl, rfl, rfl⟩ (fun _ q => q) (Nat.le_of_ble_eq_true rfl) (Nat.le_of_ble_eq_true rfl)
  · skip
    refine Walk.icNo (pc' := 5) d_jdk_29_method_65_code_2 (XT.ii_lt_f h1) ?_
    refine Walk.iloadN (pc' := 6) d_jdk_29_method_65_code_5 rfl ?_
    refine Walk.goto (pc' := 10) d_jdk_29_method_65_code_6 ?_
    exact Walk.iret d_jdk_29_method_65_code_10 rfl ⟨rfl, rfl, rfl, rfl⟩ (fun _ q => q) (Nat.le_of_ble_eq_true rfl) (Nat.le_of_ble_eq_true rfl)
set_option maxRecDepth 65536 in
set_option maxHeartbeats 40000000 in
theorem c_abs {Z : State} {a0 : Array Value} (hw : ∀ d ∈ tables_1, d.before a0 Z = true) {h : Heap} {Ts : TsT} {Li : LiT} (x m : Int64) (h1 : (x < 0 ∧ m = -x) ∨ (¬ x < 0 ∧ m = x)) :
    Con Z (⟨"java/lang/Math", "abs", "(J)J"⟩ : MethodName) jdk_29_method_61_code 2 (some .long) ({ frames := 0, cells := 0, slots := 0, locals := 0 } : Room) [(.long x)] h Ts Li (noW) (Pu (some (.long m)) h Ts Li) := by
  refine Con.of (ws := Fw h noW) (Ls := #[.val (.long x), .second]) (by decide +kernel) (fun m => by simp [entryFrame, mkF, argsToLocals, cat_i, cat_j, cat_r, cat_n]) (fun E0 => ?_)
  refine Walk.lloadN (pc' := 1) d_jdk_29_method_61_code_0 rfl ?_
  refine Walk.lconst (pc' := 2) (0 : Int64) d_jdk_29_method_61_code_1 rfl ?_
  refine Walk.lcmp (pc' := 3) d_jdk_29_method_61_code_2 ?_
  rcases h1 with ⟨h1, rfl⟩ | ⟨h1, rfl⟩
  · skip
    refine Walk.ifNo (pc' := 6) d_jdk_29_method_61_code_3 (XT.ll_ge_f h1) ?_
    refine Walk.lloadN (pc' := 7) d_jdk_29_method_61_code_6 rfl ?_
    refine Walk.lneg (pc' := 8) d_jdk_29_method_61_code_7 ?_
    refine Walk.goto (pc' := 12) d_jdk_29_method_61_code_8 ?_
    exact Walk.lret d_jdk_29_method_61_code_12 rfl ⟨rfl, rfl, rfl, rfl⟩ (fun _ q => q) (Nat.le_of_ble_eq_true rfl) (Nat.le_of_ble_eq_true rfl)
  · skip
    refine Walk.ifYes (pc' := 11) d_jdk_29_method_61_code_3 (XT.ll_ge_t h1) ?_
    refine Walk.lloadN (pc' := 12) d_jdk_29_method_61_code_11 rfl ?_
    exact Walk.lret d_jdk_29_method_61_code_12 rfl ⟨rfl, rfl, rfl, rfl⟩ (fun _ q => q) (Nat.le_of_ble_eq_true rfl) (Nat.le_of_ble_eq_true rfl)
set_option maxRecDepth 65536 in
set_option maxHeartbeats 40000000 in
theorem c_cmp {Z : State} {a0 : Array Value} (hw : ∀ d ∈ tables_1, d.before a0 Z = true) {h : Heap} {Ts : TsT} {Li : LiT} (x y : Int64) (c : Int32) (h1 : (x < y ∧ c = -1) ∨ (¬ x < y ∧ x = y ∧ c = 0) ∨ (¬ x < y ∧ ¬ x = y ∧ c = 1)) :
    Con Z (⟨"java/lang/Long", "compare", "(JJ)I"⟩ : MethodName) jdk_35_method_42_code 4 (some .int) ({ frames := 0, cells := 0, slots := 0, locals := 0 } : Room) [(.long x), (.long y)] h Ts Li (noW) (Pu (some (.int c)) h Ts Li) := by
  refine Con.of (ws := Fw h noW) (Ls := #[.val (.long x), .second, .val (.long y), .second]) (by decide +kernel) (fun m => by simp [entryFrame, mkF, argsToLocals, cat_i, cat_j, cat_r, cat_n]) (fun E0 => ?_)
  refine Walk.lloadN (pc' := 1) d_jdk_35_method_42_code_0 rfl ?_
  refine Walk.lloadN (pc' := 2) d_jdk_35_method_42_code_1 rfl ?_
  refine Walk.lcmp (pc' := 3) d_jdk_35_method_42_code_2 ?_
  rcases h1 with ⟨h1, rfl⟩ | ⟨h1, h2, rfl⟩ | ⟨h1, h2, rfl⟩
  · skip
    refine Walk.ifNo (pc' := 6) d_jdk_35_method_42_code_3 (XT.ll_ge_f h1) ?_
    refine Walk.iconst (pc' := 7) (-1 : Int32) d_jdk_35_method_42_code_6 rfl ?_
    refine Walk.goto (pc' := 21) d_jdk_35_method_42_code_7 ?_
    exact Walk.iret d_jdk_35_method_42_code_21 rfl ⟨rfl, rfl, rfl, rfl⟩ (fun _ q => q) (Nat.le_of_ble_eq_true rfl) (Nat.le_of_ble_eq_true rfl)
  · skip
    refine Walk.ifYes (pc' := 10) d_jdk_35_method_42_code_3 (XT.ll_ge_t h1) ?_
    refine Walk.lloadN (pc' := 11) d_jdk_35_method_42_code_10 rfl ?_
    refine Walk.lloadN (pc' := 12) d_jdk_35_method_42_code_11 rfl ?_
    refine Walk.lcmp (pc' := 13) d_jdk_35_method_42_code_12 ?_
    refine Walk.ifNo (pc' := 16) d_jdk_35_method_42_code_13 (XT.ll_ne_f h2) ?_
    refine Walk.iconst (pc' := 17) (0 : Int32) d_jdk_35_method_42_code_16 rfl ?_
    refine Walk.goto (pc' := 21) d_jdk_35_method_42_code_17 ?_
    exact Walk.iret d_jdk_35_method_42_code_21 rfl ⟨rfl, rfl, rfl, rfl⟩ (fun _ q => q) (Nat.le_of_ble_eq_true rfl) (Nat.le_of_ble_eq_true rfl)
  · skip
    refine Walk.ifYes (pc' := 10) d_jdk_35_method_42_code_3 (XT.ll_ge_t h1) ?_
    refine Walk.lloadN (pc' := 11) d_jdk_35_method_42_code_10 rfl ?_
    refine Walk.lloadN (pc' := 12) d_jdk_35_method_42_code_11 rfl ?_
    refine Walk.lcmp (pc' := 13) d_jdk_35_method_42_code_12 ?_
    refine Walk.ifYes (pc' := 20) d_jdk_35_method_42_code_13 (XT.ll_ne_t h2) ?_
    refine Walk.iconst (pc' := 21) (1 : Int32) d_jdk_35_method_42_code_20 rfl ?_
    exact Walk.iret d_jdk_35_method_42_code_21 rfl ⟨rfl, rfl, rfl, rfl⟩ (fun _ q => q) (Nat.le_of_ble_eq_true rfl) (Nat.le_of_ble_eq_true rfl)
set_option maxRecDepth 65536 in
set_option maxHeartbeats 40000000 in
theorem c_lcm {Z : State} {a0 : Array Value} (hw : ∀ d ∈ tables_1, d.before a0 Z = true) {h : Heap} {Ts : TsT} {Li : LiT} (x y m : Int64) (c : Int32) (h0 : (x < 0 ∧ m = -x) ∨ (¬ x < 0 ∧ m = x)) (hy : ¬ y < 0) (h1 : (m < y ∧ c = -1) ∨ (¬ m < y ∧ m = y ∧ c = 0) ∨ (¬ m < y ∧ ¬ m = y ∧ c = 1)) :
    Con Z (⟨"java/math/BigDecimal", "longCompareMagnitude", "(JJ)I"⟩ : MethodName) jdk_17_method_108_code 4 (some .int) ({ frames := 1, cells := 0, slots := 0, locals := 15 } : Room) [(.long x), (.long y)] h Ts Li (noW) (Pu (some (.int c)) h Ts Li) := by
  refine Con.of (ws := Fw h noW) (Ls := #[.val (.long x), .second, .val (.long y), .second]) (plainFor_of_name pn0) (fun m => by simp [entryFrame, mkF, argsToLocals, cat_i, cat_j, cat_r, cat_n]) (fun E0 => ?_)
  refine Walk.lloadN (pc' := 1) d_jdk_17_method_108_code_0 rfl ?_
  refine Walk.lconst (pc' := 2) (0 : Int64) d_jdk_17_method_108_code_1 rfl ?_
  refine Walk.lcmp (pc' := 3) d_jdk_17_method_108_code_2 ?_
  rcases h0 with ⟨h0, e⟩ | ⟨h0, e⟩
  · skip
    subst e
    refine Walk.ifNo (pc' := 6) d_jdk_17_method_108_code_3 (XT.ll_ge_f h0) ?_
    refine Walk.lloadN (pc' := 7) d_jdk_17_method_108_code_6 rfl ?_
    refine Walk.lneg (pc' := 8) d_jdk_17_method_108_code_7 ?_
    refine Walk.lstoreN (pc' := 9) (Ls' := #[.val (.long (-x)), .second, .val (.long y), .second]) d_jdk_17_method_108_code_8 rfl ?_
    refine Walk.lloadN (pc' := 10) d_jdk_17_method_108_code_9 rfl ?_
    refine Walk.lconst (pc' := 11) (0 : Int64) d_jdk_17_method_108_code_10 rfl ?_
    refine Walk.lcmp (pc' := 12) d_jdk_17_method_108_code_11 ?_
    refine Walk.ifYes (pc' := 18) d_jdk_17_method_108_code_12 (XT.ll_ge_t hy) ?_
    refine Walk.lloadN (pc' := 19) d_jdk_17_method_108_code_18 rfl ?_
    refine Walk.lloadN (pc' := 20) d_jdk_17_method_108_code_19 rfl ?_
    refine Walk.callS (pc' := 23) (Wd := 0) (as := [(.long (-x)), (.long y)]) (rest := []) (wd125 hw) (wd126 hw) (wd127 hw) (wd128 hw) ((c_cmp hw (-x) y c h1).pay (wd128 hw) (wd127 hw) (by decide) (by decide)) (hlen := lenOf pd0 rfl) (hd := d_jdk_17_method_108_code_20) (hst := rfl) (hW := Nat.le_of_eq rfl) (hsz := rfl) (hc1 := Nat.le_of_ble_eq_true rfl) (hl1 := Nat.le_of_ble_eq_true rfl) (hv := Fw.upN) (kk := fun v1 h5 Ts2 Li3 q4 K6 => ?_)
    obtain ⟨rfl, rfl, rfl, rfl⟩ := q4
    show Walk _ _ _ _ _ _ _ _ _ _ _ _ _ _ 0 0 23 _ [(.int c)]
    exact Walk.iret d_jdk_17_method_108_code_23 rfl ⟨rfl, rfl, rfl, rfl⟩ (fun _ q => q) (Nat.le_of_ble_eq_true rfl) (Nat.le_of_ble_eq_true rfl)
  · skip
    obtain rfl : x = m := e.symm
    refine Walk.ifYes (pc' := 9) d_jdk_17_method_108_code_3 (XT.ll_ge_t h0) ?_
    refine Walk.lloadN (pc' := 10) d_jdk_17_method_108_code_9 rfl ?_
    refine Walk.lconst (pc' := 11) (0 : Int64) d_jdk_17_method_108_code_10 rfl ?_
    refine Walk.lcmp (pc' := 12) d_jdk_17_method_108_code_11 ?_
    refine Walk.ifYes (pc' := 18) d_jdk_17_method_108_code_12 (XT.ll_ge_t hy) ?_
    refine Walk.lloadN (pc' := 19) d_jdk_17_method_108_code_18 rfl ?_
    refine Walk.lloadN (pc' := 20) d_jdk_17_method_108_code_19 rfl ?_
    refine Walk.callS (pc' := 23) (Wd := 0) (as := [(.long x), (.long y)]) (rest := []) (wd125 hw) (wd126 hw) (wd127 hw) (wd128 hw) ((c_cmp hw x y c h1).pay (wd128 hw) (wd127 hw) (by decide) (by decide)) (hlen := lenOf pd0 rfl) (hd := d_jdk_17_method_108_code_20) (hst := rfl) (hW := Nat.le_of_eq rfl) (hsz := rfl) (hc1 := Nat.le_of_ble_eq_true rfl) (hl1 := Nat.le_of_ble_eq_true rfl) (hv := Fw.upN) (kk := fun v7 h11 Ts8 Li9 q10 K12 => ?_)
    obtain ⟨rfl, rfl, rfl, rfl⟩ := q10
    show Walk _ _ _ _ _ _ _ _ _ _ _ _ _ _ 0 0 23 _ [(.int c)]
    exact Walk.iret d_jdk_17_method_108_code_23 rfl ⟨rfl, rfl, rfl, rfl⟩ (fun _ q => q) (Nat.le_of_ble_eq_true rfl) (Nat.le_of_ble_eq_true rfl)
set_option maxRecDepth 65536 in
set_option maxHeartbeats 40000000 in
theorem c_cni0 {Z : State} {a0 : Array Value} (hw : ∀ d ∈ tables_1, d.before a0 Z = true) {h : Heap} {Ts : TsT} {Li : LiT} (sg c od : Int32) {one z10 zs tp th hu : Addr} {f g t1 t2 : Nat → Value} (X : Sx Z one z10 zs tp th hu f g t1 t2) (hc : c < 0) :
    Con Z (⟨"java/math/BigDecimal", "commonNeedIncrement", "(IIIZ)Z"⟩ : MethodName) jdk_17_method_121_code 4 (some .boolean) ({ frames := 0, cells := 0, slots := 0, locals := 0 } : Room) [(.int (4 : Int32)), (.int sg), (.int c), (.int od)] h Ts Li (noW) (Pu (some (.int 0)) h Ts Li) := by
  refine Con.of (ws := Fw h noW) (Ls := #[.val (.int (4 : Int32)), .val (.int sg), .val (.int c), .val (.int od)]) (plainFor_of_name pn0) (fun m => by first | rfl | (simp [entryFrame, mkF, argsToLocals, Value.category]; done)) (fun E0 => ?_)
  refine Walk.iloadN (pc' := 1) d_jdk_17_method_121_code_0 rfl ?_
  refine Walk.tswIn (pc' := 83) (off := 82) d_jdk_17_method_121_code_1 (by decide) rfl ?_
  refine Walk.getS (pc' := 86) (wd118 hw) Via.refl X.s6 d_jdk_17_method_121_code_83 ?_
  refine Walk.ifYes (pc' := 131) d_jdk_17_method_121_code_86 (XT.i0_ne_t (by decide)) ?_
  refine Walk.iloadN (pc' := 132) d_jdk_17_method_121_code_131 rfl ?_
  refine Walk.ifNo (pc' := 135) d_jdk_17_method_121_code_132 (XT.i0_ge_f hc) ?_
  refine Walk.iconst (pc' := 136) (0 : Int32) d_jdk_17_method_121_code_135 rfl ?_
  exact Walk.nret d_jdk_17_method_121_code_136 rfl (by simp) ⟨rfl, rfl, rfl, rfl⟩ (fun _ q => q) (Nat.le_of_ble_eq_true rfl) (Nat.le_of_ble_eq_true rfl)
set_option maxRecDepth 65536 in
set_option maxHeartbeats 40000000 in
theorem c_cni1 {Z : State} {a0 : Array Value} (hw : ∀ d ∈ tables_1, d.before a0 Z = true) {h : Heap} {Ts : TsT} {Li : LiT} (sg c od : Int32) {one z10 zs tp th hu : Addr} {f g t1 t2 : Nat → Value} (X : Sx Z one z10 zs tp th hu f g t1 t2) (hc : ¬ c < 0) :
    Con Z (⟨"java/math/BigDecimal", "commonNeedIncrement", "(IIIZ)Z"⟩ : MethodName) jdk_17_method_121_code 4 (some .boolean) ({ frames := 0, cells := 0, slots := 0, locals := 0 } : Room) [(.int (4 : Int32)), (.int sg), (.int c), (.int od)] h Ts Li (noW) (Pu (some (.int 1)) h Ts Li) := by
  refine Con.of (ws := Fw h noW) (Ls := #[.val (.int (4 : Int32)), .val (.int sg), .val (.int c), .val (.int od)]) (plainFor_of_name pn0) (fun m => by first | rfl | (simp [entryFrame, mkF, argsToLocals, Value.category]; done)) (fun E0 => ?_)
  refine Walk.iloadN (pc' := 1) d_jdk_17_method_121_code_0 rfl ?_
  refine Walk.tswIn (pc' := 83) (off := 82) d_jdk_17_method_121_code_1 (by decide) rfl ?_
  refine Walk.getS (pc' := 86) (wd118 hw) Via.refl X.s6 d_jdk_17_method_121_code_83 ?_
  refine Walk.ifYes (pc' := 131) d_jdk_17_method_121_code_86 (XT.i0_ne_t (by decide)) ?_
  refine Walk.iloadN (pc' := 132) d_jdk_17_method_121_code_131 rfl ?_
  refine Walk.ifYes (pc' := 137) d_jdk_17_method_121_code_132 (XT.i0_ge_t hc) ?_
  refine Walk.iloadN (pc' := 138) d_jdk_17_method_121_code_137 rfl ?_
  by_cases h2 : 0 < c
  · skip
    refine Walk.ifNo (pc' := 141) d_jdk_17_method_121_code_138 (XT.i0_le_f h2) ?_
    refine Walk.iconst (pc' := 142) (1 : Int32) d_jdk_17_method_121_code_141 rfl ?_
    exact Walk.nret d_jdk_17_method_121_code_142 rfl (by simp) ⟨rfl, rfl, rfl, rfl⟩ (fun _ q => q) (Nat.le_of_ble_eq_true rfl) (Nat.le_of_ble_eq_true rfl)
  · skip
    refine Walk.ifYes (pc' := 143) d_jdk_17_method_121_code_138 (XT.i0_le_t h2) ?_
    refine Walk.getS (pc' := 146) (wd118 hw) Via.refl X.s6 d_jdk_17_method_121_code_143 ?_
    refine Walk.ifYes (pc' := 161) d_jdk_17_method_121_code_146 (XT.i0_ne_t (by decide)) ?_
    refine Walk.iloadN (pc' := 162) d_jdk_17_method_121_code_161 rfl ?_
    refine Walk.tswIn (pc' := 192) (off := 30) d_jdk_17_method_121_code_162 (by decide) rfl ?_
    refine Walk.iconst (pc' := 193) (1 : Int32) d_jdk_17_method_121_code_192 rfl ?_
    refine Walk.goto (pc' := 228) d_jdk_17_method_121_code_193 ?_
    exact Walk.nret d_jdk_17_method_121_code_228 rfl (by simp) ⟨rfl, rfl, rfl, rfl⟩ (fun _ q => q) (Nat.le_of_ble_eq_true rfl) (Nat.le_of_ble_eq_true rfl)
set_option maxRecDepth 65536 in
set_option maxHeartbeats 40000000 in
theorem c_ni {Z : State} {a0 : Array Value} (hw : ∀ d ∈ tables_1, d.before a0 Z = true) {h : Heap} {Ts : TsT} {Li : LiT} (b q r m : Int64) (sg z : Int32) {one z10 zs tp th hu : Addr} {f g t1 t2 : Nat → Value} (X : Sx Z one z10 zs tp th hu f g t1 t2) (h1 : (-4611686018427387904 : Int64) < r) (h2 : ¬ (4611686018427387903 : Int64) < r) (h0 : ((2 * r) < 0 ∧ m = -(2 * r)) ∨ (¬ (2 * r) < 0 ∧ m = (2 * r))) (hb : ¬ b < 0) (hz : (m < b ∧ z = 0) ∨ (¬ m < b ∧ z = 1)) :
    Con Z (⟨"java/math/BigDecimal", "needIncrement", "(JIIJJ)Z"⟩ : MethodName) jdk_17_method_122_code 9 (some .boolean) ({ frames := 2, cells := 0, slots := 0, locals := 30 } : Room) [(.long b), (.int (4 : Int32)), (.int sg), (.long q), (.long r)] h Ts Li (noW) (Pu (some (.int z)) h Ts Li) := by
  refine Con.of (ws := Fw h noW) (Ls := #[.val (.long b), .second, .val (.int (4 : Int32)), .val (.int sg), .val (.long q), .second, .val (.long r), .second, .unset]) (plainFor_of_name pn0) (fun m => by simp [entryFrame, mkF, argsToLocals, cat_i, cat_j, cat_r, cat_n]) (fun E0 => ?_)
  refine Walk.getS (pc' := 3) (wd118 hw) Via.refl X.s6 d_jdk_17_method_122_code_0 ?_
  refine Walk.ifYes (pc' := 21) d_jdk_17_method_122_code_3 (XT.i0_ne_t (by decide)) ?_
  refine Walk.lload (pc' := 23) d_jdk_17_method_122_code_21 rfl ?_
  refine Walk.ldcJ (pc' := 26) (wd119 hw) d_jdk_17_method_122_code_23 ?_
  refine Walk.lcmp (pc' := 27) d_jdk_17_method_122_code_26 ?_
  refine Walk.ifNo (pc' := 30) d_jdk_17_method_122_code_27 (XT.ll_le_f h1) ?_
  refine Walk.lload (pc' := 32) d_jdk_17_method_122_code_30 rfl ?_
  refine Walk.ldcJ (pc' := 35) (wd120 hw) d_jdk_17_method_122_code_32 ?_
  refine Walk.lcmp (pc' := 36) d_jdk_17_method_122_code_35 ?_
  refine Walk.ifYes (pc' := 45) d_jdk_17_method_122_code_36 (XT.ll_le_t h2) ?_
  refine Walk.ldcJ (pc' := 48) (wd121 hw) d_jdk_17_method_122_code_45 ?_
  refine Walk.lload (pc' := 50) d_jdk_17_method_122_code_48 rfl ?_
  refine Walk.lmul (pc' := 51) d_jdk_17_method_122_code_50 ?_
  refine Walk.lloadN (pc' := 52) d_jdk_17_method_122_code_51 rfl ?_
  obtain ⟨c, hc, hcz⟩ := own_cmp m b hz
  refine Walk.callS (pc' := 55) (Wd := 0) (as := [(.long ((2 : Int64) * r)), (.long b)]) (rest := []) (wd122 hw) (wd123 hw) (wd17 hw) (wd124 hw) ((c_lcm hw (2 * r) b m c h0 hb hc).pay (wd124 hw) (wd17 hw) (by decide) (by decide)) (hlen := lenOf pd0 rfl) (hd := d_jdk_17_method_122_code_52) (hst := rfl) (hW := Nat.le_of_eq rfl) (hsz := rfl) (hc1 := Nat.le_of_ble_eq_true rfl) (hl1 := Nat.le_of_ble_eq_true rfl) (hv := Fw.upN) (kk := fun v13 h17 Ts14 Li15 q16 K18 => ?_)
  obtain ⟨rfl, rfl, rfl, rfl⟩ := q16
  show Walk _ _ _ _ _ _ _ _ _ _ _ _ _ _ 0 0 55 _ [(.int c)]
  refine Walk.istore (pc' := 57) (Ls' := #[.val (.long b), .second, .val (.int (4 : Int32)), .val (.int sg), .val (.long q), .second, .val (.long r), .second, .val (.int c)]) d_jdk_17_method_122_code_55 rfl ?_
  refine Walk.iloadN (pc' := 58) d_jdk_17_method_122_code_57 rfl ?_
  refine Walk.iloadN (pc' := 59) d_jdk_17_method_122_code_58 rfl ?_
  refine Walk.iload (pc' := 61) d_jdk_17_method_122_code_59 rfl ?_
  refine Walk.lload (pc' := 63) d_jdk_17_method_122_code_61 rfl ?_
  refine Walk.lconst (pc' := 64) (1 : Int64) d_jdk_17_method_122_code_63 rfl ?_
  refine Walk.land (pc' := 65) d_jdk_17_method_122_code_64 ?_
  refine Walk.lconst (pc' := 66) (0 : Int64) d_jdk_17_method_122_code_65 rfl ?_
  refine Walk.lcmp (pc' := 67) d_jdk_17_method_122_code_66 ?_
  by_cases ho : (q &&& (1 : Int64)) = (0 : Int64)
  · skip
    refine Walk.ifYes (pc' := 74) d_jdk_17_method_122_code_67 (XT.ll_eq_t ho) ?_
    refine Walk.iconst (pc' := 75) (0 : Int32) d_jdk_17_method_122_code_74 rfl ?_
    rcases hcz with ⟨hc0, rfl⟩ | ⟨hc0, rfl⟩
    · skip
      refine Walk.callS (pc' := 78) (Wd := 0) (as := [(.int (4 : Int32)), (.int sg), (.int c), (.int (0 : Int32))]) (rest := []) (wd129 hw) (wd130 hw) (wd17 hw) (wd131 hw) ((c_cni0 hw sg c (0 : Int32) X hc0).pay (wd131 hw) (wd17 hw) (by decide) (by decide)) (hlen := lenOf pd1 rfl) (hd := d_jdk_17_method_122_code_75) (hst := rfl) (hW := Nat.le_of_eq rfl) (hsz := rfl) (hc1 := Nat.le_of_ble_eq_true rfl) (hl1 := Nat.le_of_ble_eq_true rfl) (hv := Fw.upN) (kk := fun v19 h23 Ts20 Li21 q22 K24 => ?_)
      obtain ⟨rfl, rfl, rfl, rfl⟩ := q22
      show Walk _ _ _ _ _ _ _ _ _ _ _ _ _ _ 0 0 78 _ [(.int (0 : Int32))]
      exact Walk.nret d_jdk_17_method_122_code_78 rfl (by simp) ⟨rfl, rfl, rfl, rfl⟩ (fun _ q => q) (Nat.le_of_ble_eq_true rfl) (Nat.le_of_ble_eq_true rfl)
    · skip
      refine Walk.callS (pc' := 78) (Wd := 0) (as := [(.int (4 : Int32)), (.int sg), (.int c), (.int (0 : Int32))]) (rest := []) (wd129 hw) (wd130 hw) (wd17 hw) (wd131 hw) ((c_cni1 hw sg c (0 : Int32) X hc0).pay (wd131 hw) (wd17 hw) (by decide) (by decide)) (hlen := lenOf pd1 rfl) (hd := d_jdk_17_method_122_code_75) (hst := rfl) (hW := Nat.le_of_eq rfl) (hsz := rfl) (hc1 := Nat.le_of_ble_eq_true rfl) (hl1 := Nat.le_of_ble_eq_true rfl) (hv := Fw.upN) (kk := fun v25 h29 Ts26 Li27 q28 K30 => ?_)
      obtain ⟨rfl, rfl, rfl, rfl⟩ := q28
      show Walk _ _ _ _ _ _ _ _ _ _ _ _ _ _ 0 0 78 _ [(.int (1 : Int32))]
      exact Walk.nret d_jdk_17_method_122_code_78 rfl (by simp) ⟨rfl, rfl, rfl, rfl⟩ (fun _ q => q) (Nat.le_of_ble_eq_true rfl) (Nat.le_of_ble_eq_true rfl)
  · skip
    refine Walk.ifNo (pc' := 70) d_jdk_17_method_122_code_67 (XT.ll_eq_f ho) ?_
    refine Walk.iconst (pc' := 71) (1 : Int32) d_jdk_17_method_122_code_70 rfl ?_
    refine Walk.goto (pc' := 75) d_jdk_17_method_122_code_71 ?_
    rcases hcz with ⟨hc0, rfl⟩ | ⟨hc0, rfl⟩
    · skip
      refine Walk.callS (pc' := 78) (Wd := 0) (as := [(.int (4 : Int32)), (.int sg), (.int c), (.int (1 : Int32))]) (rest := []) (wd129 hw) (wd130 hw) (wd17 hw) (wd131 hw) ((c_cni0 hw sg c (1 : Int32) X hc0).pay (wd131 hw) (wd17 hw) (by decide) (by decide)) (hlen := lenOf pd1 rfl) (hd := d_jdk_17_method_122_code_75) (hst := rfl) (hW := Nat.le_of_eq rfl) (hsz := rfl) (hc1 := Nat.le_of_ble_eq_true rfl) (hl1 := Nat.le_of_ble_eq_true rfl) (hv := Fw.upN) (kk := fun v31 h35 Ts32 Li33 q34 K36 => ?_)
      obtain ⟨rfl, rfl, rfl, rfl⟩ := q34
      show Walk _ _ _ _ _ _ _ _ _ _ _ _ _ _ 0 0 78 _ [(.int (0 : Int32))]
      exact Walk.nret d_jdk_17_method_122_code_78 rfl (by simp) ⟨rfl, rfl, rfl, rfl⟩ (fun _ q => q) (Nat.le_of_ble_eq_true rfl) (Nat.le_of_ble_eq_true rfl)
    · skip
      refine Walk.callS (pc' := 78) (Wd := 0) (as := [(.int (4 : Int32)), (.int sg), (.int c), (.int (1 : Int32))]) (rest := []) (wd129 hw) (wd130 hw) (wd17 hw) (wd131 hw) ((c_cni1 hw sg c (1 : Int32) X hc0).pay (wd131 hw) (wd17 hw) (by decide) (by decide)) (hlen := lenOf pd1 rfl) (hd := d_jdk_17_method_122_code_75) (hst := rfl) (hW := Nat.le_of_eq rfl) (hsz := rfl) (hc1 := Nat.le_of_ble_eq_true rfl) (hl1 := Nat.le_of_ble_eq_true rfl) (hv := Fw.upN) (kk := fun v37 h41 Ts38 Li39 q40 K42 => ?_)
      obtain ⟨rfl, rfl, rfl, rfl⟩ := q40
      show Walk _ _ _ _ _ _ _ _ _ _ _ _ _ _ 0 0 78 _ [(.int (1 : Int32))]
      exact Walk.nret d_jdk_17_method_122_code_78 rfl (by simp) ⟨rfl, rfl, rfl, rfl⟩ (fun _ q => q) (Nat.le_of_ble_eq_true rfl) (Nat.le_of_ble_eq_true rfl)
set_option maxRecDepth 65536 in
set_option maxHeartbeats 40000000 in
theorem c_num {Z : State} {a0 : Array Value} (hw : ∀ d ∈ tables_1, d.before a0 Z = true) {h : Heap} {Ts : TsT} {Li : LiT} (x : Addr) :
    Con Z (⟨"java/lang/Number", "<init>", "()V"⟩ : MethodName) jdk_18_method_1_code 1 none ({ frames := 1, cells := 0, slots := 0, locals := 12 } : Room) [(.ref x)] h Ts Li (noW) (Pu (none) h Ts Li) := by
  refine Con.of (ws := Fw h noW) (Ls := #[.val (.ref x)]) (plainFor_of_name pn1) (fun m => by first | rfl | (simp [entryFrame, mkF, argsToLocals, Value.category]; done)) (fun E0 => ?_)
  refine Walk.aloadN (pc' := 1) d_jdk_18_method_1_code_0 rfl rfl ?_
  refine Walk.initO (pc' := 4) (wd104 hw) (wd26 hw) (wd27 hw) d_jdk_18_method_1_code_1 rfl (Wd := 0) (Nat.le_of_eq rfl) (by decide) (by decide) ?_
  exact Walk.ret d_jdk_18_method_1_code_4 rfl ⟨rfl, rfl, rfl, rfl⟩ (fun _ q => q) (Nat.le_of_ble_eq_true rfl) (Nat.le_of_ble_eq_true rfl)
set_option maxRecDepth 65536 in
set_option maxHeartbeats 40000000 in
theorem c_bi {Z : State} {a0 : Array Value} (hw : ∀ d ∈ tables_1, d.before a0 Z = true) {h : Heap} {Ts : TsT} {Li : LiT} (x : Addr) (v : Int64) (s p : Int32) (E1 : Exa Z h x "java/math/BigDecimal") (F1 : Fld Z h x "java/math/BigDecimal" "scale" "I" (.int 0)) (F2 : Fld Z h x "java/math/BigDecimal" "precision" "I" (.int 0)) (F3 : Fld Z h x "java/math/BigDecimal" "intCompact" "J" (.long 0)) (F4 : Fld Z h x "java/math/BigDecimal" "intVal" "Ljava/math/BigInteger;" .null) (gz : Z.heap.size ≤ x) :
    Con Z (⟨"java/math/BigDecimal", "<init>", "(Ljava/math/BigInteger;JII)V"⟩ : MethodName) jdk_17_method_1_code 6 none ({ frames := 2, cells := 0, slots := 0, locals := 24 } : Room) [(.ref x), .null, (.long v), (.int s), (.int p)] h Ts Li (fun y => y.base = x) (fun v' h' Ts' Li' => (v' = none ∧ Ts' = Ts ∧ Li' = Li) ∧ Bd Z h' x v s) := by
  refine Con.of (ws := Fw h fun y => y.base = x) (Ls := #[.val (.ref x), .val .null, .val (.long v), .second, .val (.int s), .val (.int p)]) (plainFor_of_name pn0) (fun m => by simp [entryFrame, mkF, argsToLocals, cat_i, cat_j, cat_r, cat_n]) (fun E0 => ?_)
  refine Walk.aloadN (pc' := 1) d_jdk_17_method_1_code_0 rfl rfl ?_
  refine Walk.callI (pc' := 4) (a := x) (Wd := 0) (as := []) (rest := []) (wd98 hw) (wd99 hw) (wd103 hw) ((c_num hw x).pay (wd103 hw) (wd102 hw) (by decide) (by decide)) (hlen := lenOf pd2 rfl) (hd := d_jdk_17_method_1_code_1) (hst := rfl) (hW := Nat.le_of_eq rfl) (hsz := rfl) (hc1 := Nat.le_of_ble_eq_true rfl) (hl1 := Nat.le_of_ble_eq_true rfl) (hv := Fw.upN) (kk := fun v43 h47 Ts44 Li45 q46 K48 => ?_)
  obtain ⟨rfl, rfl, rfl, rfl⟩ := q46
  show Walk _ _ _ _ _ _ _ _ _ _ _ _ _ _ 0 0 4 _ []
  refine Walk.aloadN (pc' := 5) d_jdk_17_method_1_code_4 rfl rfl ?_
  refine Walk.iload (pc' := 7) d_jdk_17_method_1_code_5 rfl ?_
  refine Walk.putF (pc' := 10) (host := "") (Or.inl (wd43 hw)) Via.refl F1 E1 (Or.inr ⟨(wd44 hw), rfl, rfl⟩) (wd93 hw) (ty := .int) (by decide) rfl rfl d_jdk_17_method_1_code_7 gz (Fw.old rfl) (fun h49 K50 F51 => ?_)
  refine Walk.aloadN (pc' := 11) d_jdk_17_method_1_code_10 rfl rfl ?_
  refine Walk.iload (pc' := 13) d_jdk_17_method_1_code_11 rfl ?_
  refine Walk.putF (pc' := 16) (host := "") (Or.inl (wd105 hw)) Via.refl (F2.kq K50 (nws (slot_ne (a0 := a0) (Or.inl (wd106 hw)) (Or.inr (wd44 hw)) (by decide) (t := .int) (by decide) (t' := .int) (by decide)))) (E1.kq K50) (Or.inl (wd106 hw)) (wd93 hw) (ty := .int) (by decide) rfl rfl d_jdk_17_method_1_code_13 gz (Fw.old rfl) (fun h52 K53 F54 => ?_)
  refine Walk.aloadN (pc' := 17) d_jdk_17_method_1_code_16 rfl rfl ?_
  refine Walk.lloadN (pc' := 18) d_jdk_17_method_1_code_17 rfl ?_
  refine Walk.putF (pc' := 21) (host := "") (Or.inl (wd50 hw)) Via.refl ((F3.kq K50 (nws (slot_ne (a0 := a0) (Or.inr (wd51 hw)) (Or.inr (wd44 hw)) (by decide) (t := .long) (by decide) (t' := .int) (by decide)))).kq K53 (nws (slot_ne (a0 := a0) (Or.inr (wd51 hw)) (Or.inl (wd106 hw)) (by decide) (t := .long) (by decide) (t' := .int) (by decide)))) ((E1.kq K50).kq K53) (Or.inr ⟨(wd51 hw), rfl, rfl⟩) (wd93 hw) (ty := .long) (by decide) rfl rfl d_jdk_17_method_1_code_18 gz (Fw.old rfl) (fun h55 K56 F57 => ?_)
  refine Walk.aloadN (pc' := 22) d_jdk_17_method_1_code_21 rfl rfl ?_
  refine Walk.aloadN (pc' := 23) d_jdk_17_method_1_code_22 rfl rfl ?_
  refine Walk.putF (pc' := 26) (host := "") (Or.inl (wd107 hw)) Via.refl (((F4.kq K50 (nws (slot_ne (a0 := a0) (Or.inr (wd108 hw)) (Or.inr (wd44 hw)) (by decide) (t := (.object "java/math/BigInteger")) (by decide) (t' := .int) (by decide)))).kq K53 (nws (slot_ne (a0 := a0) (Or.inr (wd108 hw)) (Or.inl (wd106 hw)) (by decide) (t := (.object "java/math/BigInteger")) (by decide) (t' := .int) (by decide)))).kq K56 (nws (slot_ne (a0 := a0) (Or.inr (wd108 hw)) (Or.inr (wd51 hw)) (by decide) (t := (.object "java/math/BigInteger")) (by decide) (t' := .long) (by decide)))) (((E1.kq K50).kq K53).kq K56) (Or.inr ⟨(wd108 hw), rfl, rfl⟩) (wd93 hw) (ty := (.object "java/math/BigInteger")) (by decide) rfl rfl d_jdk_17_method_1_code_23 gz (Fw.old rfl) (fun h58 K59 F60 => ?_)
  exact Walk.ret d_jdk_17_method_1_code_26 rfl ⟨⟨rfl, rfl, rfl⟩, ⟨((((E1.kq K50).kq K53).kq K56).kq K59), (((F51.kq K53 (nws (slot_ne (a0 := a0) (Or.inr (wd44 hw)) (Or.inl (wd106 hw)) (by decide) (t := .int) (by decide) (t' := .int) (by decide)))).kq K56 (nws (slot_ne (a0 := a0) (Or.inr (wd44 hw)) (Or.inr (wd51 hw)) (by decide) (t := .int) (by decide) (t' := .long) (by decide)))).kq K59 (nws (slot_ne (a0 := a0) (Or.inr (wd44 hw)) (Or.inr (wd108 hw)) (by decide) (t := .int) (by decide) (t' := (.object "java/math/BigInteger")) (by decide)))), (F57.kq K59 (nws (slot_ne (a0 := a0) (Or.inr (wd51 hw)) (Or.inr (wd108 hw)) (by decide) (t := .long) (by decide) (t' := (.object "java/math/BigInteger")) (by decide))))⟩⟩ (fun _ q => q) (Nat.le_of_ble_eq_true rfl) (Nat.le_of_ble_eq_true rfl)
set_option maxRecDepth 65536 in
set_option maxHeartbeats 40000000 in
theorem c_wi {Z : State} {a0 : Array Value} (hw : ∀ d ∈ tables_1, d.before a0 Z = true) {h : Heap} {Ts : TsT} {Li : LiT} (x n d : Addr) (E1 : Exa Z h x "com/example/indexwerk/indexwerk/Weight") (F1 : Fld Z h x "com/example/indexwerk/indexwerk/Weight" "numerator" "Ljava/math/BigDecimal;" .null) (F2 : Fld Z h x "com/example/indexwerk/indexwerk/Weight" "denominator" "Ljava/math/BigDecimal;" .null) (gz : Z.heap.size ≤ x) :
    Con Z (⟨"com/example/indexwerk/indexwerk/Weight", "<init>", "(Ljava/math/BigDecimal;Ljava/math/BigDecimal;)V"⟩ : MethodName) prog_8_method_1_code 3 none ({ frames := 1, cells := 0, slots := 0, locals := 12 } : Room) [(.ref x), (.ref n), (.ref d)] h Ts Li (fun y => y.base = x) (fun v' h' Ts' Li' => (v' = none ∧ Ts' = Ts ∧ Li' = Li) ∧ Fld Z h' x "com/example/indexwerk/indexwerk/Weight" "numerator" "Ljava/math/BigDecimal;" (.ref n) ∧ Fld Z h' x "com/example/indexwerk/indexwerk/Weight" "denominator" "Ljava/math/BigDecimal;" (.ref d)) := by
  refine Con.of (ws := Fw h fun y => y.base = x) (Ls := #[.val (.ref x), .val (.ref n), .val (.ref d)]) (plainFor_of_name pn2) (fun m => by first | rfl | (simp [entryFrame, mkF, argsToLocals, Value.category]; done)) (fun E0 => ?_)
  refine Walk.aloadN (pc' := 1) d_prog_8_method_1_code_0 rfl rfl ?_
  refine Walk.initO (pc' := 4) (wd25 hw) (wd26 hw) (wd27 hw) d_prog_8_method_1_code_1 rfl (Wd := 0) (Nat.le_of_eq rfl) (by decide) (by decide) ?_
  refine Walk.aloadN (pc' := 5) d_prog_8_method_1_code_4 rfl rfl ?_
  refine Walk.aloadN (pc' := 6) d_prog_8_method_1_code_5 rfl rfl ?_
  refine Walk.putF (pc' := 9) (host := "") (Or.inl (wd28 hw)) Via.refl F1 E1 (Or.inr ⟨(wd29 hw), rfl, rfl⟩) (wd15 hw) (ty := (.object "java/math/BigDecimal")) (by decide) rfl rfl d_prog_8_method_1_code_6 gz (Fw.old rfl) (fun h61 K62 F63 => ?_)
  refine Walk.aloadN (pc' := 10) d_prog_8_method_1_code_9 rfl rfl ?_
  refine Walk.aloadN (pc' := 11) d_prog_8_method_1_code_10 rfl rfl ?_
  refine Walk.putF (pc' := 14) (host := "") (Or.inl (wd30 hw)) Via.refl (F2.kq K62 (nws (slot_ne (a0 := a0) (Or.inr (wd31 hw)) (Or.inr (wd29 hw)) (by decide) (t := (.object "java/math/BigDecimal")) (by decide) (t' := (.object "java/math/BigDecimal")) (by decide)))) (E1.kq K62) (Or.inr ⟨(wd31 hw), rfl, rfl⟩) (wd15 hw) (ty := (.object "java/math/BigDecimal")) (by decide) rfl rfl d_prog_8_method_1_code_11 gz (Fw.old rfl) (fun h64 K65 F66 => ?_)
  exact Walk.ret d_prog_8_method_1_code_14 rfl ⟨⟨rfl, rfl, rfl⟩, (F63.kq K65 (nws (slot_ne (a0 := a0) (Or.inr (wd29 hw)) (Or.inr (wd31 hw)) (by decide) (t := (.object "java/math/BigDecimal")) (by decide) (t' := (.object "java/math/BigDecimal")) (by decide)))), F66⟩ (fun _ q => q) (Nat.le_of_ble_eq_true rfl) (Nat.le_of_ble_eq_true rfl)
set_option maxRecDepth 65536 in
set_option maxHeartbeats 40000000 in
theorem c_vo {Z : State} {a0 : Array Value} (hw : ∀ d ∈ tables_1, d.before a0 Z = true) {h : Heap} {Ts : TsT} {Li : LiT} (v : Int64) (hv : ¬ v = (-9223372036854775808 : Int64)) {one z10 zs tp th hu : Addr} {f g t1 t2 : Nat → Value} (X : Sx Z one z10 zs tp th hu f g t1 t2) :
    Con Z (⟨"java/math/BigDecimal", "valueOf", "(J)Ljava/math/BigDecimal;"⟩ : MethodName) jdk_17_method_21_code 2 (some (.object "java/math/BigDecimal")) ({ frames := 3, cells := 1, slots := 5, locals := 42 } : Room) [(.long v)] h Ts Li (noW) (fun v' h' Ts' Li' => (∃ x, v' = some (.ref x) ∧ Bd Z h' x v 0) ∧ Ts' = Ts ∧ Li' = Li) := by
  refine Con.of (ws := Fw h noW) (Ls := #[.val (.long v), .second]) (plainFor_of_name pn0) (fun m => by simp [entryFrame, mkF, argsToLocals, cat_i, cat_j, cat_r, cat_n]) (fun E0 => ?_)
  refine Walk.lloadN (pc' := 1) d_jdk_17_method_21_code_0 rfl ?_
  refine Walk.lconst (pc' := 2) (0 : Int64) d_jdk_17_method_21_code_1 rfl ?_
  refine Walk.lcmp (pc' := 3) d_jdk_17_method_21_code_2 ?_
  by_cases h0 : v < (0 : Int64)
  · skip
    refine Walk.ifYes (pc' := 23) d_jdk_17_method_21_code_3 (XT.ll_lt_t h0) ?_
    refine Walk.lloadN (pc' := 24) d_jdk_17_method_21_code_23 rfl ?_
    refine Walk.ldcJ (pc' := 27) (wd52 hw) d_jdk_17_method_21_code_24 ?_
    refine Walk.lcmp (pc' := 28) d_jdk_17_method_21_code_27 ?_
    refine Walk.ifNo (pc' := 31) d_jdk_17_method_21_code_28 (XT.ll_eq_f hv) ?_
    refine Walk.newO (pc' := 34) (wd92 hw) (wd93 hw) (wd17 hw) d_jdk_17_method_21_code_31 (by decide) (by decide) (fun h67 x69 g70 g71 g72 K68 E73 D74 => ?_)
    have F75 : Fld Z h67 x69 "java/math/BigDecimal" "scale" "I" (.int (0 : Int32)) := D74 (Or.inr (wd44 hw)) (ty := .int) (by decide)
    have F76 : Fld Z h67 x69 "java/math/BigDecimal" "precision" "I" (.int (0 : Int32)) := D74 (Or.inl (wd106 hw)) (ty := .int) (by decide)
    have F77 : Fld Z h67 x69 "java/math/BigDecimal" "intCompact" "J" (.long (0 : Int64)) := D74 (Or.inr (wd51 hw)) (ty := .long) (by decide)
    have F78 : Fld Z h67 x69 "java/math/BigDecimal" "intVal" "Ljava/math/BigInteger;" .null := D74 (Or.inr (wd108 hw)) (ty := (.object "java/math/BigInteger")) (by decide)
    refine Walk.dup (pc' := 35) d_jdk_17_method_21_code_34 rfl ?_
    refine Walk.aconstNull (pc' := 36) d_jdk_17_method_21_code_35 ?_
    refine Walk.lloadN (pc' := 37) d_jdk_17_method_21_code_36 rfl ?_
    refine Walk.iconst (pc' := 38) (0 : Int32) d_jdk_17_method_21_code_37 rfl ?_
    refine Walk.iconst (pc' := 39) (0 : Int32) d_jdk_17_method_21_code_38 rfl ?_
    refine Walk.callI (pc' := 42) (a := x69) (Wd := 1) (as := [.null, (.long v), (.int (0 : Int32)), (.int (0 : Int32))]) (rest := [(.ref x69)]) (wd94 hw) (wd95 hw) (wd97 hw) ((c_bi hw x69 v (0 : Int32) 0 E73 F75 F76 F77 F78 g72).pay (wd97 hw) (wd17 hw) (by decide) (by decide)) (hlen := lenOf pd3 rfl) (hd := d_jdk_17_method_21_code_39) (hst := rfl) (hW := Nat.le_of_eq rfl) (hsz := rfl) (hc1 := Nat.le_of_ble_eq_true rfl) (hl1 := Nat.le_of_ble_eq_true rfl) (hv := (Fw.up (fun y q => Or.inl (q ▸ g71)))) (kk := fun v79 h83 Ts80 Li81 q82 K84 => ?_)
    obtain ⟨⟨rfl, rfl, rfl⟩, Bx⟩ := q82
    show Walk _ _ _ _ _ _ _ _ _ _ _ _ _ _ 1 5 42 _ [(.ref x69)]
    exact Walk.aret d_jdk_17_method_21_code_42 rfl rfl rfl ⟨⟨_, rfl, Bx⟩, rfl, rfl⟩ (fun _ q => q) (Nat.le_of_ble_eq_true rfl) (Nat.le_of_ble_eq_true rfl)
  · skip
    refine Walk.ifNo (pc' := 6) d_jdk_17_method_21_code_3 (XT.ll_lt_f h0) ?_
    refine Walk.lloadN (pc' := 7) d_jdk_17_method_21_code_6 rfl ?_
    refine Walk.getS (pc' := 10) (wd21 hw) Via.refl X.s2 d_jdk_17_method_21_code_7 ?_
    refine Walk.alen (pc' := 11) (z := (11 : Int32)) (X.a2.kq (Kq.of_ext E0) (fun _ q => q)) d_jdk_17_method_21_code_10 rfl ?_
    refine Walk.i2l (pc' := 12) d_jdk_17_method_21_code_11 ?_
    refine Walk.lcmp (pc' := 13) d_jdk_17_method_21_code_12 ?_
    by_cases h1 : v < (Int32.toInt64 (11 : Int32))
    · skip
      refine Walk.ifNo (pc' := 16) d_jdk_17_method_21_code_13 (XT.ll_ge_f h1) ?_
      refine Walk.getS (pc' := 19) (wd21 hw) Via.refl X.s2 d_jdk_17_method_21_code_16 ?_
      refine Walk.lloadN (pc' := 20) d_jdk_17_method_21_code_19 rfl ?_
      refine Walk.l2i (pc' := 21) d_jdk_17_method_21_code_20 ?_
      obtain ⟨i, hi, hn, hj, rfl⟩ := own_small h0 h1
      obtain ⟨y, hy, B⟩ := X.e2 i hi
      refine Walk.aaload (pc' := 22) (X.a2.kq (Kq.of_ext E0) (fun _ q => q)) rfl d_jdk_17_method_21_code_21 hn hj hi hy ?_
      exact Walk.aret d_jdk_17_method_21_code_22 rfl rfl rfl ⟨⟨_, rfl, B.kq (Kq.of_ext E0)⟩, rfl, rfl⟩ (fun _ q => q) (Nat.le_of_ble_eq_true rfl) (Nat.le_of_ble_eq_true rfl)
    · skip
      refine Walk.ifYes (pc' := 23) d_jdk_17_method_21_code_13 (XT.ll_ge_t h1) ?_
      refine Walk.lloadN (pc' := 24) d_jdk_17_method_21_code_23 rfl ?_
      refine Walk.ldcJ (pc' := 27) (wd52 hw) d_jdk_17_method_21_code_24 ?_
      refine Walk.lcmp (pc' := 28) d_jdk_17_method_21_code_27 ?_
      refine Walk.ifNo (pc' := 31) d_jdk_17_method_21_code_28 (XT.ll_eq_f hv) ?_
      refine Walk.newO (pc' := 34) (wd92 hw) (wd93 hw) (wd17 hw) d_jdk_17_method_21_code_31 (by decide) (by decide) (fun h85 x87 g88 g89 g90 K86 E91 D92 => ?_)
      have F93 : Fld Z h85 x87 "java/math/BigDecimal" "scale" "I" (.int (0 : Int32)) := D92 (Or.inr (wd44 hw)) (ty := .int) (by decide)
      have F94 : Fld Z h85 x87 "java/math/BigDecimal" "precision" "I" (.int (0 : Int32)) := D92 (Or.inl (wd106 hw)) (ty := .int) (by decide)
      have F95 : Fld Z h85 x87 "java/math/BigDecimal" "intCompact" "J" (.long (0 : Int64)) := D92 (Or.inr (wd51 hw)) (ty := .long) (by decide)
      have F96 : Fld Z h85 x87 "java/math/BigDecimal" "intVal" "Ljava/math/BigInteger;" .null := D92 (Or.inr (wd108 hw)) (ty := (.object "java/math/BigInteger")) (by decide)
      refine Walk.dup (pc' := 35) d_jdk_17_method_21_code_34 rfl ?_
      refine Walk.aconstNull (pc' := 36) d_jdk_17_method_21_code_35 ?_
      refine Walk.lloadN (pc' := 37) d_jdk_17_method_21_code_36 rfl ?_
      refine Walk.iconst (pc' := 38) (0 : Int32) d_jdk_17_method_21_code_37 rfl ?_
      refine Walk.iconst (pc' := 39) (0 : Int32) d_jdk_17_method_21_code_38 rfl ?_
      refine Walk.callI (pc' := 42) (a := x87) (Wd := 1) (as := [.null, (.long v), (.int (0 : Int32)), (.int (0 : Int32))]) (rest := [(.ref x87)]) (wd94 hw) (wd95 hw) (wd97 hw) ((c_bi hw x87 v (0 : Int32) 0 E91 F93 F94 F95 F96 g90).pay (wd97 hw) (wd17 hw) (by decide) (by decide)) (hlen := lenOf pd3 rfl) (hd := d_jdk_17_method_21_code_39) (hst := rfl) (hW := Nat.le_of_eq rfl) (hsz := rfl) (hc1 := Nat.le_of_ble_eq_true rfl) (hl1 := Nat.le_of_ble_eq_true rfl) (hv := (Fw.up (fun y q => Or.inl (q ▸ g89)))) (kk := fun v97 h101 Ts98 Li99 q100 K102 => ?_)
      obtain ⟨⟨rfl, rfl, rfl⟩, Bx⟩ := q100
      show Walk _ _ _ _ _ _ _ _ _ _ _ _ _ _ 1 5 42 _ [(.ref x87)]
      exact Walk.aret d_jdk_17_method_21_code_42 rfl rfl rfl ⟨⟨_, rfl, Bx⟩, rfl, rfl⟩ (fun _ q => q) (Nat.le_of_ble_eq_true rfl) (Nat.le_of_ble_eq_true rfl)
set_option maxRecDepth 65536 in
set_option maxHeartbeats 40000000 in
theorem c_zv1 {Z : State} {a0 : Array Value} (hw : ∀ d ∈ tables_1, d.before a0 Z = true) {h : Heap} {Ts : TsT} {Li : LiT} {one z10 zs tp th hu : Addr} {f g t1 t2 : Nat → Value} (X : Sx Z one z10 zs tp th hu f g t1 t2) :
    Con Z (⟨"java/math/BigDecimal", "zeroValueOf", "(I)Ljava/math/BigDecimal;"⟩ : MethodName) jdk_17_method_24_code 1 (some (.object "java/math/BigDecimal")) ({ frames := 0, cells := 0, slots := 0, locals := 0 } : Room) [(.int (1 : Int32))] h Ts Li (noW) (fun v' h' Ts' Li' => (∃ x, v' = some (.ref x) ∧ Bd Z h' x 0 1) ∧ Ts' = Ts ∧ Li' = Li) := by
  refine Con.of (ws := Fw h noW) (Ls := #[.val (.int (1 : Int32))]) (plainFor_of_name pn0) (fun m => by first | rfl | (simp [entryFrame, mkF, argsToLocals, Value.category]; done)) (fun E0 => ?_)
  refine Walk.iloadN (pc' := 1) d_jdk_17_method_24_code_0 rfl ?_
  refine Walk.ifNo (pc' := 4) d_jdk_17_method_24_code_1 (XT.i0_lt_f (by decide)) ?_
  refine Walk.iloadN (pc' := 5) d_jdk_17_method_24_code_4 rfl ?_
  refine Walk.getS (pc' := 8) (wd135 hw) Via.refl X.s3 d_jdk_17_method_24_code_5 ?_
  refine Walk.alen (pc' := 9) (z := (16 : Int32)) (X.a3.kq (Kq.of_ext E0) (fun _ q => q)) d_jdk_17_method_24_code_8 rfl ?_
  refine Walk.icNo (pc' := 12) d_jdk_17_method_24_code_9 (XT.ii_ge_f (by decide)) ?_
  refine Walk.getS (pc' := 15) (wd135 hw) Via.refl X.s3 d_jdk_17_method_24_code_12 ?_
  refine Walk.iloadN (pc' := 16) d_jdk_17_method_24_code_15 rfl ?_
  obtain ⟨y, hy, B⟩ := X.e31
  refine Walk.aaload (pc' := 17) (i := 1) (X.a3.kq (Kq.of_ext E0) (fun _ q => q)) rfl d_jdk_17_method_24_code_16 (by decide) rfl (by decide) hy ?_
  exact Walk.aret d_jdk_17_method_24_code_17 rfl rfl rfl ⟨⟨_, rfl, B.kq (Kq.of_ext E0)⟩, rfl, rfl⟩ (fun _ q => q) (Nat.le_of_ble_eq_true rfl) (Nat.le_of_ble_eq_true rfl)
set_option maxRecDepth 65536 in
set_option maxHeartbeats 40000000 in
theorem c_zv2 {Z : State} {a0 : Array Value} (hw : ∀ d ∈ tables_1, d.before a0 Z = true) {h : Heap} {Ts : TsT} {Li : LiT} {one z10 zs tp th hu : Addr} {f g t1 t2 : Nat → Value} (X : Sx Z one z10 zs tp th hu f g t1 t2) :
    Con Z (⟨"java/math/BigDecimal", "zeroValueOf", "(I)Ljava/math/BigDecimal;"⟩ : MethodName) jdk_17_method_24_code 1 (some (.object "java/math/BigDecimal")) ({ frames := 0, cells := 0, slots := 0, locals := 0 } : Room) [(.int (2 : Int32))] h Ts Li (noW) (fun v' h' Ts' Li' => (∃ x, v' = some (.ref x) ∧ Bd Z h' x 0 2) ∧ Ts' = Ts ∧ Li' = Li) := by
  refine Con.of (ws := Fw h noW) (Ls := #[.val (.int (2 : Int32))]) (plainFor_of_name pn0) (fun m => by first | rfl | (simp [entryFrame, mkF, argsToLocals, Value.category]; done)) (fun E0 => ?_)
  refine Walk.iloadN (pc' := 1) d_jdk_17_method_24_code_0 rfl ?_
  refine Walk.ifNo (pc' := 4) d_jdk_17_method_24_code_1 (XT.i0_lt_f (by decide)) ?_
  refine Walk.iloadN (pc' := 5) d_jdk_17_method_24_code_4 rfl ?_
  refine Walk.getS (pc' := 8) (wd135 hw) Via.refl X.s3 d_jdk_17_method_24_code_5 ?_
  refine Walk.alen (pc' := 9) (z := (16 : Int32)) (X.a3.kq (Kq.of_ext E0) (fun _ q => q)) d_jdk_17_method_24_code_8 rfl ?_
  refine Walk.icNo (pc' := 12) d_jdk_17_method_24_code_9 (XT.ii_ge_f (by decide)) ?_
  refine Walk.getS (pc' := 15) (wd135 hw) Via.refl X.s3 d_jdk_17_method_24_code_12 ?_
  refine Walk.iloadN (pc' := 16) d_jdk_17_method_24_code_15 rfl ?_
  obtain ⟨y, hy, B⟩ := X.e32
  refine Walk.aaload (pc' := 17) (i := 2) (X.a3.kq (Kq.of_ext E0) (fun _ q => q)) rfl d_jdk_17_method_24_code_16 (by decide) rfl (by decide) hy ?_
  exact Walk.aret d_jdk_17_method_24_code_17 rfl rfl rfl ⟨⟨_, rfl, B.kq (Kq.of_ext E0)⟩, rfl, rfl⟩ (fun _ q => q) (Nat.le_of_ble_eq_true rfl) (Nat.le_of_ble_eq_true rfl)
set_option maxRecDepth 65536 in
set_option maxHeartbeats 40000000 in
theorem c_vo20 {Z : State} {a0 : Array Value} (hw : ∀ d ∈ tables_1, d.before a0 Z = true) {h : Heap} {Ts : TsT} {Li : LiT} (v : Int64) (hv : ¬ v = (-9223372036854775808 : Int64)) {one z10 zs tp th hu : Addr} {f g t1 t2 : Nat → Value} (X : Sx Z one z10 zs tp th hu f g t1 t2) :
    Con Z (⟨"java/math/BigDecimal", "valueOf", "(JI)Ljava/math/BigDecimal;"⟩ : MethodName) jdk_17_method_20_code 3 (some (.object "java/math/BigDecimal")) ({ frames := 4, cells := 1, slots := 5, locals := 55 } : Room) [(.long v), (.int (0 : Int32))] h Ts Li (noW) (fun v' h' Ts' Li' => (∃ x, v' = some (.ref x) ∧ Bd Z h' x v 0) ∧ Ts' = Ts ∧ Li' = Li) := by
  refine Con.of (ws := Fw h noW) (Ls := #[.val (.long v), .second, .val (.int (0 : Int32))]) (plainFor_of_name pn0) (fun m => by simp [entryFrame, mkF, argsToLocals, cat_i, cat_j, cat_r, cat_n]) (fun E0 => ?_)
  refine Walk.iloadN (pc' := 1) d_jdk_17_method_20_code_0 rfl ?_
  refine Walk.ifNo (pc' := 4) d_jdk_17_method_20_code_1 (XT.i0_ne_f rfl) ?_
  refine Walk.lloadN (pc' := 5) d_jdk_17_method_20_code_4 rfl ?_
  refine Walk.callS (pc' := 8) (Wd := 0) (as := [(.long v)]) (rest := []) (wd63 hw) (wd19 hw) (wd17 hw) (wd20 hw) ((c_vo hw v hv X).pay (wd20 hw) (wd17 hw) (by decide) (by decide)) (hlen := lenOf pd4 rfl) (hd := d_jdk_17_method_20_code_5) (hst := rfl) (hW := Nat.le_of_eq rfl) (hsz := rfl) (hc1 := Nat.le_of_ble_eq_true rfl) (hl1 := Nat.le_of_ble_eq_true rfl) (hv := Fw.upN) (kk := fun v105 h109 Ts106 Li107 q108 K110 => ?_)
  obtain ⟨⟨x103, rfl, B104⟩, rfl, rfl⟩ := q108
  show Walk _ _ _ _ _ _ _ _ _ _ _ _ _ _ 1 5 8 _ [(.ref x103)]
  exact Walk.aret d_jdk_17_method_20_code_8 rfl rfl rfl ⟨⟨_, rfl, ⟨B104.1, B104.2.1, B104.2.2⟩⟩, rfl, rfl⟩ (fun _ q => q) (Nat.le_of_ble_eq_true rfl) (Nat.le_of_ble_eq_true rfl)
set_option maxRecDepth 65536 in
set_option maxHeartbeats 40000000 in
theorem c_vo21 {Z : State} {a0 : Array Value} (hw : ∀ d ∈ tables_1, d.before a0 Z = true) {h : Heap} {Ts : TsT} {Li : LiT} (v : Int64) (hv : ¬ v = (-9223372036854775808 : Int64)) {one z10 zs tp th hu : Addr} {f g t1 t2 : Nat → Value} (X : Sx Z one z10 zs tp th hu f g t1 t2) :
    Con Z (⟨"java/math/BigDecimal", "valueOf", "(JI)Ljava/math/BigDecimal;"⟩ : MethodName) jdk_17_method_20_code 3 (some (.object "java/math/BigDecimal")) ({ frames := 4, cells := 1, slots := 5, locals := 55 } : Room) [(.long v), (.int (1 : Int32))] h Ts Li (noW) (fun v' h' Ts' Li' => (∃ x, v' = some (.ref x) ∧ Bd Z h' x v 1) ∧ Ts' = Ts ∧ Li' = Li) := by
  refine Con.of (ws := Fw h noW) (Ls := #[.val (.long v), .second, .val (.int (1 : Int32))]) (plainFor_of_name pn0) (fun m => by simp [entryFrame, mkF, argsToLocals, cat_i, cat_j, cat_r, cat_n]) (fun E0 => ?_)
  refine Walk.iloadN (pc' := 1) d_jdk_17_method_20_code_0 rfl ?_
  refine Walk.ifYes (pc' := 9) d_jdk_17_method_20_code_1 (XT.i0_ne_t (by decide)) ?_
  refine Walk.lloadN (pc' := 10) d_jdk_17_method_20_code_9 rfl ?_
  refine Walk.lconst (pc' := 11) (0 : Int64) d_jdk_17_method_20_code_10 rfl ?_
  refine Walk.lcmp (pc' := 12) d_jdk_17_method_20_code_11 ?_
  by_cases h0 : v = (0 : Int64)
  · skip
    refine Walk.ifNo (pc' := 15) d_jdk_17_method_20_code_12 (XT.ll_ne_f h0) ?_
    refine Walk.iloadN (pc' := 16) d_jdk_17_method_20_code_15 rfl ?_
    refine Walk.callS (pc' := 19) (Wd := 0) (as := [(.int (1 : Int32))]) (rest := []) (wd132 hw) (wd133 hw) (wd17 hw) (wd134 hw) ((c_zv1 hw X).pay (wd134 hw) (wd17 hw) (by decide) (by decide)) (hlen := lenOf pd5 rfl) (hd := d_jdk_17_method_20_code_16) (hst := rfl) (hW := Nat.le_of_eq rfl) (hsz := rfl) (hc1 := Nat.le_of_ble_eq_true rfl) (hl1 := Nat.le_of_ble_eq_true rfl) (hv := Fw.upN) (kk := fun v113 h117 Ts114 Li115 q116 K118 => ?_)
    obtain ⟨⟨x111, rfl, B112⟩, rfl, rfl⟩ := q116
    show Walk _ _ _ _ _ _ _ _ _ _ _ _ _ _ 0 0 19 _ [(.ref x111)]
    subst h0
    exact Walk.aret d_jdk_17_method_20_code_19 rfl rfl rfl ⟨⟨_, rfl, ⟨B112.1, B112.2.1, B112.2.2⟩⟩, rfl, rfl⟩ (fun _ q => q) (Nat.le_of_ble_eq_true rfl) (Nat.le_of_ble_eq_true rfl)
  · skip
    refine Walk.ifYes (pc' := 20) d_jdk_17_method_20_code_12 (XT.ll_ne_t h0) ?_
    refine Walk.newO (pc' := 23) (wd92 hw) (wd93 hw) (wd17 hw) d_jdk_17_method_20_code_20 (by decide) (by decide) (fun h119 x121 g122 g123 g124 K120 E125 D126 => ?_)
    have F127 : Fld Z h119 x121 "java/math/BigDecimal" "scale" "I" (.int (0 : Int32)) := D126 (Or.inr (wd44 hw)) (ty := .int) (by decide)
    have F128 : Fld Z h119 x121 "java/math/BigDecimal" "precision" "I" (.int (0 : Int32)) := D126 (Or.inl (wd106 hw)) (ty := .int) (by decide)
    have F129 : Fld Z h119 x121 "java/math/BigDecimal" "intCompact" "J" (.long (0 : Int64)) := D126 (Or.inr (wd51 hw)) (ty := .long) (by decide)
    have F130 : Fld Z h119 x121 "java/math/BigDecimal" "intVal" "Ljava/math/BigInteger;" .null := D126 (Or.inr (wd108 hw)) (ty := (.object "java/math/BigInteger")) (by decide)
    refine Walk.dup (pc' := 24) d_jdk_17_method_20_code_23 rfl ?_
    refine Walk.lloadN (pc' := 25) d_jdk_17_method_20_code_24 rfl ?_
    refine Walk.ldcJ (pc' := 28) (wd52 hw) d_jdk_17_method_20_code_25 ?_
    refine Walk.lcmp (pc' := 29) d_jdk_17_method_20_code_28 ?_
    refine Walk.ifYes (pc' := 38) d_jdk_17_method_20_code_29 (XT.ll_ne_t hv) ?_
    refine Walk.aconstNull (pc' := 39) d_jdk_17_method_20_code_38 ?_
    refine Walk.lloadN (pc' := 40) d_jdk_17_method_20_code_39 rfl ?_
    refine Walk.iloadN (pc' := 41) d_jdk_17_method_20_code_40 rfl ?_
    refine Walk.iconst (pc' := 42) (0 : Int32) d_jdk_17_method_20_code_41 rfl ?_
    refine Walk.callI (pc' := 45) (a := x121) (Wd := 1) (as := [.null, (.long v), (.int (1 : Int32)), (.int (0 : Int32))]) (rest := [(.ref x121)]) (wd94 hw) (wd95 hw) (wd97 hw) ((c_bi hw x121 v (1 : Int32) 0 E125 F127 F128 F129 F130 g124).pay (wd97 hw) (wd17 hw) (by decide) (by decide)) (hlen := lenOf pd3 rfl) (hd := d_jdk_17_method_20_code_42) (hst := rfl) (hW := Nat.le_of_eq rfl) (hsz := rfl) (hc1 := Nat.le_of_ble_eq_true rfl) (hl1 := Nat.le_of_ble_eq_true rfl) (hv := (Fw.up (fun y q => Or.inl (q ▸ g123)))) (kk := fun v131 h135 Ts132 Li133 q134 K136 => ?_)
    obtain ⟨⟨rfl, rfl, rfl⟩, Bx⟩ := q134
    show Walk _ _ _ _ _ _ _ _ _ _ _ _ _ _ 1 5 45 _ [(.ref x121)]
    exact Walk.aret d_jdk_17_method_20_code_45 rfl rfl rfl ⟨⟨_, rfl, Bx⟩, rfl, rfl⟩ (fun _ q => q) (Nat.le_of_ble_eq_true rfl) (Nat.le_of_ble_eq_true rfl)
set_option maxRecDepth 65536 in
set_option maxHeartbeats 40000000 in
theorem c_vo22 {Z : State} {a0 : Array Value} (hw : ∀ d ∈ tables_1, d.before a0 Z = true) {h : Heap} {Ts : TsT} {Li : LiT} (v : Int64) (hv : ¬ v = (-9223372036854775808 : Int64)) {one z10 zs tp th hu : Addr} {f g t1 t2 : Nat → Value} (X : Sx Z one z10 zs tp th hu f g t1 t2) :
    Con Z (⟨"java/math/BigDecimal", "valueOf", "(JI)Ljava/math/BigDecimal;"⟩ : MethodName) jdk_17_method_20_code 3 (some (.object "java/math/BigDecimal")) ({ frames := 4, cells := 1, slots := 5, locals := 55 } : Room) [(.long v), (.int (2 : Int32))] h Ts Li (noW) (fun v' h' Ts' Li' => (∃ x, v' = some (.ref x) ∧ Bd Z h' x v 2) ∧ Ts' = Ts ∧ Li' = Li) := by
  refine Con.of (ws := Fw h noW) (Ls := #[.val (.long v), .second, .val (.int (2 : Int32))]) (plainFor_of_name pn0) (fun m => by simp [entryFrame, mkF, argsToLocals, cat_i, cat_j, cat_r, cat_n]) (fun E0 => ?_)
  refine Walk.iloadN (pc' := 1) d_jdk_17_method_20_code_0 rfl ?_
  refine Walk.ifYes (pc' := 9) d_jdk_17_method_20_code_1 (XT.i0_ne_t (by decide)) ?_
  refine Walk.lloadN (pc' := 10) d_jdk_17_method_20_code_9 rfl ?_
  refine Walk.lconst (pc' := 11) (0 : Int64) d_jdk_17_method_20_code_10 rfl ?_
  refine Walk.lcmp (pc' := 12) d_jdk_17_method_20_code_11 ?_
  by_cases h0 : v = (0 : Int64)
  · skip
    refine Walk.ifNo (pc' := 15) d_jdk_17_method_20_code_12 (XT.ll_ne_f h0) ?_
    refine Walk.iloadN (pc' := 16) d_jdk_17_method_20_code_15 rfl ?_
    refine Walk.callS (pc' := 19) (Wd := 0) (as := [(.int (2 : Int32))]) (rest := []) (wd132 hw) (wd133 hw) (wd17 hw) (wd134 hw) ((c_zv2 hw X).pay (wd134 hw) (wd17 hw) (by decide) (by decide)) (hlen := lenOf pd5 rfl) (hd := d_jdk_17_method_20_code_16) (hst := rfl) (hW := Nat.le_of_eq rfl) (hsz := rfl) (hc1 := Nat.le_of_ble_eq_true rfl) (hl1 := Nat.le_of_ble_eq_true rfl) (hv := Fw.upN) (kk := fun v139 h143 Ts140 Li141 q142 K144 => ?_)
    obtain ⟨⟨x137, rfl, B138⟩, rfl, rfl⟩ := q142
    show Walk _ _ _ _ _ _ _ _ _ _ _ _ _ _ 0 0 19 _ [(.ref x137)]
    subst h0
    exact Walk.aret d_jdk_17_method_20_code_19 rfl rfl rfl ⟨⟨_, rfl, ⟨B138.1, B138.2.1, B138.2.2⟩⟩, rfl, rfl⟩ (fun _ q => q) (Nat.le_of_ble_eq_true rfl) (Nat.le_of_ble_eq_true rfl)
  · skip
    refine Walk.ifYes (pc' := 20) d_jdk_17_method_20_code_12 (XT.ll_ne_t h0) ?_
    refine Walk.newO (pc' := 23) (wd92 hw) (wd93 hw) (wd17 hw) d_jdk_17_method_20_code_20 (by decide) (by decide) (fun h145 x147 g148 g149 g150 K146 E151 D152 => ?_)
    have F153 : Fld Z h145 x147 "java/math/BigDecimal" "scale" "I" (.int (0 : Int32)) := D152 (Or.inr (wd44 hw)) (ty := .int) (by decide)
    have F154 : Fld Z h145 x147 "java/math/BigDecimal" "precision" "I" (.int (0 : Int32)) := D152 (Or.inl (wd106 hw)) (ty := .int) (by decide)
    have F155 : Fld Z h145 x147 "java/math/BigDecimal" "intCompact" "J" (.long (0 : Int64)) := D152 (Or.inr (wd51 hw)) (ty := .long) (by decide)
    have F156 : Fld Z h145 x147 "java/math/BigDecimal" "intVal" "Ljava/math/BigInteger;" .null := D152 (Or.inr (wd108 hw)) (ty := (.object "java/math/BigInteger")) (by decide)
    refine Walk.dup (pc' := 24) d_jdk_17_method_20_code_23 rfl ?_
    refine Walk.lloadN (pc' := 25) d_jdk_17_method_20_code_24 rfl ?_
    refine Walk.ldcJ (pc' := 28) (wd52 hw) d_jdk_17_method_20_code_25 ?_
    refine Walk.lcmp (pc' := 29) d_jdk_17_method_20_code_28 ?_
    refine Walk.ifYes (pc' := 38) d_jdk_17_method_20_code_29 (XT.ll_ne_t hv) ?_
    refine Walk.aconstNull (pc' := 39) d_jdk_17_method_20_code_38 ?_
    refine Walk.lloadN (pc' := 40) d_jdk_17_method_20_code_39 rfl ?_
    refine Walk.iloadN (pc' := 41) d_jdk_17_method_20_code_40 rfl ?_
    refine Walk.iconst (pc' := 42) (0 : Int32) d_jdk_17_method_20_code_41 rfl ?_
    refine Walk.callI (pc' := 45) (a := x147) (Wd := 1) (as := [.null, (.long v), (.int (2 : Int32)), (.int (0 : Int32))]) (rest := [(.ref x147)]) (wd94 hw) (wd95 hw) (wd97 hw) ((c_bi hw x147 v (2 : Int32) 0 E151 F153 F154 F155 F156 g150).pay (wd97 hw) (wd17 hw) (by decide) (by decide)) (hlen := lenOf pd3 rfl) (hd := d_jdk_17_method_20_code_42) (hst := rfl) (hW := Nat.le_of_eq rfl) (hsz := rfl) (hc1 := Nat.le_of_ble_eq_true rfl) (hl1 := Nat.le_of_ble_eq_true rfl) (hv := (Fw.up (fun y q => Or.inl (q ▸ g149)))) (kk := fun v157 h161 Ts158 Li159 q160 K162 => ?_)
    obtain ⟨⟨rfl, rfl, rfl⟩, Bx⟩ := q160
    show Walk _ _ _ _ _ _ _ _ _ _ _ _ _ _ 1 5 45 _ [(.ref x147)]
    exact Walk.aret d_jdk_17_method_20_code_45 rfl rfl rfl ⟨⟨_, rfl, Bx⟩, rfl, rfl⟩ (fun _ q => q) (Nat.le_of_ble_eq_true rfl) (Nat.le_of_ble_eq_true rfl)
set_option maxRecDepth 65536 in
set_option maxHeartbeats 40000000 in
theorem c_mj {Z : State} {a0 : Array Value} (hw : ∀ d ∈ tables_1, d.before a0 Z = true) {h : Heap} {Ts : TsT} {Li : LiT} (a b p : Int64) (hp : a * b = p) (hb : ¬ b = 0 → a * b / b = a) :
    Con Z (⟨"java/math/BigDecimal", "multiply", "(JJ)J"⟩ : MethodName) jdk_17_method_156_code 10 (some .long) ({ frames := 1, cells := 0, slots := 0, locals := 13 } : Room) [(.long a), (.long b)] h Ts Li (noW) (Pu (some (.long p)) h Ts Li) := by
  refine Con.of (ws := Fw h noW) (Ls := #[.val (.long a), .second, .val (.long b), .second, .unset, .unset, .unset, .unset, .unset, .unset]) (plainFor_of_name pn0) (fun m => by simp [entryFrame, mkF, argsToLocals, cat_i, cat_j, cat_r, cat_n]) (fun E0 => ?_)
  obtain ⟨m1, g1⟩ := own_abs a
  obtain ⟨m2, g2⟩ := own_abs b
  refine Walk.lloadN (pc' := 1) d_jdk_17_method_156_code_0 rfl ?_
  refine Walk.lloadN (pc' := 2) d_jdk_17_method_156_code_1 rfl ?_
  refine Walk.lmul (pc' := 3) d_jdk_17_method_156_code_2 ?_
  refine Walk.lstore (pc' := 5) (Ls' := #[.val (.long a), .second, .val (.long b), .second, .val (.long (a * b)), .second, .unset, .unset, .unset, .unset]) d_jdk_17_method_156_code_3 rfl ?_
  refine Walk.lloadN (pc' := 6) d_jdk_17_method_156_code_5 rfl ?_
  refine Walk.callS (pc' := 9) (Wd := 0) (as := [(.long a)]) (rest := []) (wd59 hw) (wd7 hw) (wd3 hw) (wd8 hw) ((c_abs hw a m1 g1).pay (wd8 hw) (wd3 hw) (by decide) (by decide)) (hlen := lenOf pd6 rfl) (hd := d_jdk_17_method_156_code_6) (hst := rfl) (hW := Nat.le_of_eq rfl) (hsz := rfl) (hc1 := Nat.le_of_ble_eq_true rfl) (hl1 := Nat.le_of_ble_eq_true rfl) (hv := Fw.upN) (kk := fun v163 h167 Ts164 Li165 q166 K168 => ?_)
  obtain ⟨rfl, rfl, rfl, rfl⟩ := q166
  show Walk _ _ _ _ _ _ _ _ _ _ _ _ _ _ 0 0 9 _ [(.long m1)]
  refine Walk.lstore (pc' := 11) (Ls' := #[.val (.long a), .second, .val (.long b), .second, .val (.long (a * b)), .second, .val (.long m1), .second, .unset, .unset]) d_jdk_17_method_156_code_9 rfl ?_
  refine Walk.lloadN (pc' := 12) d_jdk_17_method_156_code_11 rfl ?_
  refine Walk.callS (pc' := 15) (Wd := 0) (as := [(.long b)]) (rest := []) (wd59 hw) (wd7 hw) (wd3 hw) (wd8 hw) ((c_abs hw b m2 g2).pay (wd8 hw) (wd3 hw) (by decide) (by decide)) (hlen := lenOf pd6 rfl) (hd := d_jdk_17_method_156_code_12) (hst := rfl) (hW := Nat.le_of_eq rfl) (hsz := rfl) (hc1 := Nat.le_of_ble_eq_true rfl) (hl1 := Nat.le_of_ble_eq_true rfl) (hv := Fw.upN) (kk := fun v169 h173 Ts170 Li171 q172 K174 => ?_)
  obtain ⟨rfl, rfl, rfl, rfl⟩ := q172
  show Walk _ _ _ _ _ _ _ _ _ _ _ _ _ _ 0 0 15 _ [(.long m2)]
  refine Walk.lstore (pc' := 17) (Ls' := #[.val (.long a), .second, .val (.long b), .second, .val (.long (a * b)), .second, .val (.long m1), .second, .val (.long m2), .second]) d_jdk_17_method_156_code_15 rfl ?_
  refine Walk.lload (pc' := 19) d_jdk_17_method_156_code_17 rfl ?_
  refine Walk.lload (pc' := 21) d_jdk_17_method_156_code_19 rfl ?_
  refine Walk.lor (pc' := 22) d_jdk_17_method_156_code_21 ?_
  refine Walk.bipush (pc' := 24) (31 : Int32) d_jdk_17_method_156_code_22 rfl ?_
  refine Walk.lushr (pc' := 25) d_jdk_17_method_156_code_24 ?_
  refine Walk.lconst (pc' := 26) (0 : Int64) d_jdk_17_method_156_code_25 rfl ?_
  refine Walk.lcmp (pc' := 27) d_jdk_17_method_156_code_26 ?_
  by_cases h1 : (XT.ushrL (m1 ||| m2) (31 : Int32)) = (0 : Int64)
  · skip
    refine Walk.ifYes (pc' := 45) d_jdk_17_method_156_code_27 (XT.ll_eq_t h1) ?_
    refine Walk.lload (pc' := 47) d_jdk_17_method_156_code_45 rfl ?_
    exact Walk.lret d_jdk_17_method_156_code_47 rfl ⟨by rw [hp], rfl, rfl, rfl⟩ (fun _ q => q) (Nat.le_of_ble_eq_true rfl) (Nat.le_of_ble_eq_true rfl)
  · skip
    refine Walk.ifNo (pc' := 30) d_jdk_17_method_156_code_27 (XT.ll_eq_f h1) ?_
    refine Walk.lloadN (pc' := 31) d_jdk_17_method_156_code_30 rfl ?_
    refine Walk.lconst (pc' := 32) (0 : Int64) d_jdk_17_method_156_code_31 rfl ?_
    refine Walk.lcmp (pc' := 33) d_jdk_17_method_156_code_32 ?_
    by_cases h2 : b = (0 : Int64)
    · skip
      refine Walk.ifYes (pc' := 45) d_jdk_17_method_156_code_33 (XT.ll_eq_t h2) ?_
      refine Walk.lload (pc' := 47) d_jdk_17_method_156_code_45 rfl ?_
      exact Walk.lret d_jdk_17_method_156_code_47 rfl ⟨by rw [hp], rfl, rfl, rfl⟩ (fun _ q => q) (Nat.le_of_ble_eq_true rfl) (Nat.le_of_ble_eq_true rfl)
    · skip
      refine Walk.ifNo (pc' := 36) d_jdk_17_method_156_code_33 (XT.ll_eq_f h2) ?_
      refine Walk.lload (pc' := 38) d_jdk_17_method_156_code_36 rfl ?_
      refine Walk.lloadN (pc' := 39) d_jdk_17_method_156_code_38 rfl ?_
      refine Walk.ldiv (pc' := 40) d_jdk_17_method_156_code_39 h2 ?_
      refine Walk.lloadN (pc' := 41) d_jdk_17_method_156_code_40 rfl ?_
      refine Walk.lcmp (pc' := 42) d_jdk_17_method_156_code_41 ?_
      refine Walk.ifNo (pc' := 45) d_jdk_17_method_156_code_42 (XT.ll_ne_f (hb h2)) ?_
      refine Walk.lload (pc' := 47) d_jdk_17_method_156_code_45 rfl ?_
      exact Walk.lret d_jdk_17_method_156_code_47 rfl ⟨by rw [hp], rfl, rfl, rfl⟩ (fun _ q => q) (Nat.le_of_ble_eq_true rfl) (Nat.le_of_ble_eq_true rfl)
set_option maxRecDepth 65536 in
set_option maxHeartbeats 40000000 in
theorem c_m3 {Z : State} {a0 : Array Value} (hw : ∀ d ∈ tables_1, d.before a0 Z = true) {h : Heap} {Ts : TsT} {Li : LiT} (a b p : Int64) (hp : a * b = p) (hb : ¬ b = 0 → a * b / b = a) (hn : ¬ p = (-9223372036854775808 : Int64)) {one z10 zs tp th hu : Addr} {f g t1 t2 : Nat → Value} (X : Sx Z one z10 zs tp th hu f g t1 t2) :
    Con Z (⟨"java/math/BigDecimal", "multiply", "(JJI)Ljava/math/BigDecimal;"⟩ : MethodName) jdk_17_method_157_code 7 (some (.object "java/math/BigDecimal")) ({ frames := 5, cells := 1, slots := 5, locals := 69 } : Room) [(.long a), (.long b), (.int (0 : Int32))] h Ts Li (noW) (fun v' h' Ts' Li' => (∃ x, v' = some (.ref x) ∧ Bd Z h' x p 0) ∧ Ts' = Ts ∧ Li' = Li) := by
  refine Con.of (ws := Fw h noW) (Ls := #[.val (.long a), .second, .val (.long b), .second, .val (.int (0 : Int32)), .unset, .unset]) (plainFor_of_name pn0) (fun m => by simp [entryFrame, mkF, argsToLocals, cat_i, cat_j, cat_r, cat_n]) (fun E0 => ?_)
  refine Walk.lloadN (pc' := 1) d_jdk_17_method_157_code_0 rfl ?_
  refine Walk.lloadN (pc' := 2) d_jdk_17_method_157_code_1 rfl ?_
  refine Walk.callS (pc' := 5) (Wd := 0) (as := [(.long a), (.long b)]) (rest := []) (wd56 hw) (wd57 hw) (wd17 hw) (wd58 hw) ((c_mj hw a b p hp hb).pay (wd58 hw) (wd17 hw) (by decide) (by decide)) (hlen := lenOf pd7 rfl) (hd := d_jdk_17_method_157_code_2) (hst := rfl) (hW := Nat.le_of_eq rfl) (hsz := rfl) (hc1 := Nat.le_of_ble_eq_true rfl) (hl1 := Nat.le_of_ble_eq_true rfl) (hv := Fw.upN) (kk := fun v175 h179 Ts176 Li177 q178 K180 => ?_)
  obtain ⟨rfl, rfl, rfl, rfl⟩ := q178
  show Walk _ _ _ _ _ _ _ _ _ _ _ _ _ _ 0 0 5 _ [(.long p)]
  refine Walk.lstore (pc' := 7) (Ls' := #[.val (.long a), .second, .val (.long b), .second, .val (.int (0 : Int32)), .val (.long p), .second]) d_jdk_17_method_157_code_5 rfl ?_
  refine Walk.lload (pc' := 9) d_jdk_17_method_157_code_7 rfl ?_
  refine Walk.ldcJ (pc' := 12) (wd52 hw) d_jdk_17_method_157_code_9 ?_
  refine Walk.lcmp (pc' := 13) d_jdk_17_method_157_code_12 ?_
  refine Walk.ifNo (pc' := 16) d_jdk_17_method_157_code_13 (XT.ll_eq_f hn) ?_
  refine Walk.lload (pc' := 18) d_jdk_17_method_157_code_16 rfl ?_
  refine Walk.iload (pc' := 20) d_jdk_17_method_157_code_18 rfl ?_
  refine Walk.callS (pc' := 23) (Wd := 0) (as := [(.long p), (.int (0 : Int32))]) (rest := []) (wd60 hw) (wd61 hw) (wd17 hw) (wd62 hw) ((c_vo20 hw p hn X).pay (wd62 hw) (wd17 hw) (by decide) (by decide)) (hlen := lenOf pd8 rfl) (hd := d_jdk_17_method_157_code_20) (hst := rfl) (hW := Nat.le_of_eq rfl) (hsz := rfl) (hc1 := Nat.le_of_ble_eq_true rfl) (hl1 := Nat.le_of_ble_eq_true rfl) (hv := Fw.upN) (kk := fun v183 h187 Ts184 Li185 q186 K188 => ?_)
  obtain ⟨⟨x181, rfl, B182⟩, rfl, rfl⟩ := q186
  show Walk _ _ _ _ _ _ _ _ _ _ _ _ _ _ 1 5 23 _ [(.ref x181)]
  exact Walk.aret d_jdk_17_method_157_code_23 rfl rfl rfl ⟨⟨_, rfl, ⟨B182.1, B182.2.1, B182.2.2⟩⟩, rfl, rfl⟩ (fun _ q => q) (Nat.le_of_ble_eq_true rfl) (Nat.le_of_ble_eq_true rfl)
set_option maxRecDepth 65536 in
set_option maxHeartbeats 40000000 in
theorem c_ck {Z : State} {a0 : Array Value} (hw : ∀ d ∈ tables_1, d.before a0 Z = true) {h : Heap} {Ts : TsT} {Li : LiT} (x : Addr) (v : Int64) (r : Int32) (hr : v.toInt32 = r) (h1 : Int32.toInt64 r = v) :
    Con Z (⟨"java/math/BigDecimal", "checkScale", "(J)I"⟩ : MethodName) jdk_17_method_106_code 5 (some .int) ({ frames := 0, cells := 0, slots := 0, locals := 0 } : Room) [(.ref x), (.long v)] h Ts Li (noW) (Pu (some (.int r)) h Ts Li) := by
  refine Con.of (ws := Fw h noW) (Ls := #[.val (.ref x), .val (.long v), .second, .unset, .unset]) (plainFor_of_name pn0) (fun m => by simp [entryFrame, mkF, argsToLocals, cat_i, cat_j, cat_r, cat_n]) (fun E0 => ?_)
  subst hr
  refine Walk.lloadN (pc' := 1) d_jdk_17_method_106_code_0 rfl ?_
  refine Walk.l2i (pc' := 2) d_jdk_17_method_106_code_1 ?_
  refine Walk.istoreN (pc' := 3) (Ls' := #[.val (.ref x), .val (.long v), .second, .val (.int (Int64.toInt32 v)), .unset]) d_jdk_17_method_106_code_2 rfl ?_
  refine Walk.iloadN (pc' := 4) d_jdk_17_method_106_code_3 rfl ?_
  refine Walk.i2l (pc' := 5) d_jdk_17_method_106_code_4 ?_
  refine Walk.lloadN (pc' := 6) d_jdk_17_method_106_code_5 rfl ?_
  refine Walk.lcmp (pc' := 7) d_jdk_17_method_106_code_6 ?_
  refine Walk.ifYes (pc' := 76) d_jdk_17_method_106_code_7 (XT.ll_eq_t h1) ?_
  refine Walk.iloadN (pc' := 77) d_jdk_17_method_106_code_76 rfl ?_
  exact Walk.iret d_jdk_17_method_106_code_77 rfl ⟨rfl, rfl, rfl, rfl⟩ (fun _ q => q) (Nat.le_of_ble_eq_true rfl) (Nat.le_of_ble_eq_true rfl)
set_option maxRecDepth 65536 in
set_option maxHeartbeats 40000000 in
theorem c_ck2 {Z : State} {a0 : Array Value} (hw : ∀ d ∈ tables_1, d.before a0 Z = true) {h : Heap} {Ts : TsT} {Li : LiT} (a v : Int64) (r : Int32) (hr : v.toInt32 = r) (h1 : Int32.toInt64 r = v) :
    Con Z (⟨"java/math/BigDecimal", "checkScale", "(JJ)I"⟩ : MethodName) jdk_17_method_113_code 5 (some .int) ({ frames := 0, cells := 0, slots := 0, locals := 0 } : Room) [(.long a), (.long v)] h Ts Li (noW) (Pu (some (.int r)) h Ts Li) := by
  refine Con.of (ws := Fw h noW) (Ls := #[.val (.long a), .second, .val (.long v), .second, .unset]) (plainFor_of_name pn0) (fun m => by simp [entryFrame, mkF, argsToLocals, cat_i, cat_j, cat_r, cat_n]) (fun E0 => ?_)
  subst hr
  refine Walk.lloadN (pc' := 1) d_jdk_17_method_113_code_0 rfl ?_
  refine Walk.l2i (pc' := 2) d_jdk_17_method_113_code_1 ?_
  refine Walk.istore (pc' := 4) (Ls' := #[.val (.long a), .second, .val (.long v), .second, .val (.int (Int64.toInt32 v))]) d_jdk_17_method_113_code_2 rfl ?_
  refine Walk.iload (pc' := 6) d_jdk_17_method_113_code_4 rfl ?_
  refine Walk.i2l (pc' := 7) d_jdk_17_method_113_code_6 ?_
  refine Walk.lloadN (pc' := 8) d_jdk_17_method_113_code_7 rfl ?_
  refine Walk.lcmp (pc' := 9) d_jdk_17_method_113_code_8 ?_
  refine Walk.ifYes (pc' := 59) d_jdk_17_method_113_code_9 (XT.ll_eq_t h1) ?_
  refine Walk.iload (pc' := 61) d_jdk_17_method_113_code_59 rfl ?_
  exact Walk.iret d_jdk_17_method_113_code_61 rfl ⟨rfl, rfl, rfl, rfl⟩ (fun _ q => q) (Nat.le_of_ble_eq_true rfl) (Nat.le_of_ble_eq_true rfl)
set_option maxRecDepth 65536 in
set_option maxHeartbeats 40000000 in
theorem c_mb {Z : State} {a0 : Array Value} (hw : ∀ d ∈ tables_1, d.before a0 Z = true) {h : Heap} {Ts : TsT} {Li : LiT} (x y : Addr) (a b p : Int64) (Bx : Bd Z h x a 0) (By : Bd Z h y b 0) (hp : a * b = p) (hb : ¬ b = 0 → a * b / b = a) (hn : ¬ p = (-9223372036854775808 : Int64)) (na : ¬ a = (-9223372036854775808 : Int64)) (nb : ¬ b = (-9223372036854775808 : Int64)) {one z10 zs tp th hu : Addr} {f g t1 t2 : Nat → Value} (X : Sx Z one z10 zs tp th hu f g t1 t2) :
    Con Z (⟨"java/math/BigDecimal", "multiply", "(Ljava/math/BigDecimal;)Ljava/math/BigDecimal;"⟩ : MethodName) jdk_17_method_31_code 3 (some (.object "java/math/BigDecimal")) ({ frames := 6, cells := 1, slots := 5, locals := 87 } : Room) [(.ref x), (.ref y)] h Ts Li (noW) (fun v' h' Ts' Li' => (∃ x, v' = some (.ref x) ∧ Bd Z h' x p 0) ∧ Ts' = Ts ∧ Li' = Li) := by
  refine Con.of (ws := Fw h noW) (Ls := #[.val (.ref x), .val (.ref y), .unset]) (plainFor_of_name pn0) (fun m => by first | rfl | (simp [entryFrame, mkF, argsToLocals, Value.category]; done)) (fun E0 => ?_)
  refine Walk.aloadN (pc' := 1) d_jdk_17_method_31_code_0 rfl rfl ?_
  refine Walk.aloadN (pc' := 2) d_jdk_17_method_31_code_1 rfl rfl ?_
  refine Walk.getF (pc' := 5) (host := "") (Or.inl (wd43 hw)) Via.refl Bx.2.1 d_jdk_17_method_31_code_2 ?_
  refine Walk.i2l (pc' := 6) d_jdk_17_method_31_code_5 ?_
  refine Walk.aloadN (pc' := 7) d_jdk_17_method_31_code_6 rfl rfl ?_
  refine Walk.getF (pc' := 10) (host := "") (Or.inl (wd43 hw)) Via.refl By.2.1 d_jdk_17_method_31_code_7 ?_
  refine Walk.i2l (pc' := 11) d_jdk_17_method_31_code_10 ?_
  refine Walk.ladd (pc' := 12) d_jdk_17_method_31_code_11 ?_
  refine Walk.callP (pc' := 15) (a := x) (Wd := 0) (as := [(.long ((Int32.toInt64 (0 : Int32)) + (Int32.toInt64 (0 : Int32))))]) (rest := []) (wd45 hw) (wd46 hw) (wd47 hw) (wd49 hw) (wd41 hw) (wd40 hw) rfl Bx.1 ((c_ck hw x ((Int32.toInt64 (0 : Int32)) + (Int32.toInt64 (0 : Int32))) 0 (by decide) (by decide)).pay (wd49 hw) (wd17 hw) (by decide) (by decide)) (hlen := lenOf pd9 rfl) (hd := d_jdk_17_method_31_code_12) (hst := rfl) (hW := Nat.le_of_eq rfl) (hsz := rfl) (hc1 := Nat.le_of_ble_eq_true rfl) (hl1 := Nat.le_of_ble_eq_true rfl) (hv := Fw.upN) (kk := fun v189 h193 Ts190 Li191 q192 K194 => ?_)
  obtain ⟨rfl, rfl, rfl, rfl⟩ := q192
  show Walk _ _ _ _ _ _ _ _ _ _ _ _ _ _ 0 0 15 _ [(.int (0 : Int32))]
  refine Walk.istoreN (pc' := 16) (Ls' := #[.val (.ref x), .val (.ref y), .val (.int (0 : Int32))]) d_jdk_17_method_31_code_15 rfl ?_
  refine Walk.aloadN (pc' := 17) d_jdk_17_method_31_code_16 rfl rfl ?_
  refine Walk.getF (pc' := 20) (host := "") (Or.inl (wd50 hw)) Via.refl Bx.2.2 d_jdk_17_method_31_code_17 ?_
  refine Walk.ldcJ (pc' := 23) (wd52 hw) d_jdk_17_method_31_code_20 ?_
  refine Walk.lcmp (pc' := 24) d_jdk_17_method_31_code_23 ?_
  refine Walk.ifNo (pc' := 27) d_jdk_17_method_31_code_24 (XT.ll_eq_f na) ?_
  refine Walk.aloadN (pc' := 28) d_jdk_17_method_31_code_27 rfl rfl ?_
  refine Walk.getF (pc' := 31) (host := "") (Or.inl (wd50 hw)) Via.refl By.2.2 d_jdk_17_method_31_code_28 ?_
  refine Walk.ldcJ (pc' := 34) (wd52 hw) d_jdk_17_method_31_code_31 ?_
  refine Walk.lcmp (pc' := 35) d_jdk_17_method_31_code_34 ?_
  refine Walk.ifNo (pc' := 38) d_jdk_17_method_31_code_35 (XT.ll_eq_f nb) ?_
  refine Walk.aloadN (pc' := 39) d_jdk_17_method_31_code_38 rfl rfl ?_
  refine Walk.getF (pc' := 42) (host := "") (Or.inl (wd50 hw)) Via.refl Bx.2.2 d_jdk_17_method_31_code_39 ?_
  refine Walk.aloadN (pc' := 43) d_jdk_17_method_31_code_42 rfl rfl ?_
  refine Walk.getF (pc' := 46) (host := "") (Or.inl (wd50 hw)) Via.refl By.2.2 d_jdk_17_method_31_code_43 ?_
  refine Walk.iloadN (pc' := 47) d_jdk_17_method_31_code_46 rfl ?_
  refine Walk.callS (pc' := 50) (Wd := 0) (as := [(.long a), (.long b), (.int (0 : Int32))]) (rest := []) (wd53 hw) (wd54 hw) (wd17 hw) (wd55 hw) ((c_m3 hw a b p hp hb hn X).pay (wd55 hw) (wd17 hw) (by decide) (by decide)) (hlen := lenOf pd10 rfl) (hd := d_jdk_17_method_31_code_47) (hst := rfl) (hW := Nat.le_of_eq rfl) (hsz := rfl) (hc1 := Nat.le_of_ble_eq_true rfl) (hl1 := Nat.le_of_ble_eq_true rfl) (hv := Fw.upN) (kk := fun v197 h201 Ts198 Li199 q200 K202 => ?_)
  obtain ⟨⟨x195, rfl, B196⟩, rfl, rfl⟩ := q200
  show Walk _ _ _ _ _ _ _ _ _ _ _ _ _ _ 1 5 50 _ [(.ref x195)]
  exact Walk.aret d_jdk_17_method_31_code_50 rfl rfl rfl ⟨⟨_, rfl, ⟨B196.1, B196.2.1, B196.2.2⟩⟩, rfl, rfl⟩ (fun _ q => q) (Nat.le_of_ble_eq_true rfl) (Nat.le_of_ble_eq_true rfl)
set_option maxRecDepth 65536 in
set_option maxHeartbeats 40000000 in
theorem c_ea {Z : State} {a0 : Array Value} (hw : ∀ d ∈ tables_1, d.before a0 Z = true) {h : Heap} {Ts : TsT} {Li : LiT} (n : Int32) {one z10 zs tp th hu : Addr} {f g t1 t2 : Nat → Value} (X : Sx Z one z10 zs tp th hu f g t1 t2) :
    Con Z (⟨"com/example/indexwerk/indexwerk/Weight", "equalAmong", "(I)Lcom/example/indexwerk/indexwerk/Weight;"⟩ : MethodName) prog_8_method_4_code 1 (some (.object "com/example/indexwerk/indexwerk/Weight")) ({ frames := 4, cells := 2, slots := 7, locals := 58 } : Room) [(.int n)] h Ts Li (noW) (fun v' h' Ts' Li' => (∃ x d, v' = some (.ref x) ∧ Exa Z h' x "com/example/indexwerk/indexwerk/Weight" ∧ Fld Z h' x "com/example/indexwerk/indexwerk/Weight" "numerator" "Ljava/math/BigDecimal;" (.ref one) ∧ Fld Z h' x "com/example/indexwerk/indexwerk/Weight" "denominator" "Ljava/math/BigDecimal;" (.ref d) ∧ Bd Z h' d n.toInt64 0) ∧ Ts' = Ts ∧ Li' = Li) := by
  refine Con.of (ws := Fw h noW) (Ls := #[.val (.int n)]) (plainFor_of_name pn2) (fun m => by first | rfl | (simp [entryFrame, mkF, argsToLocals, Value.category]; done)) (fun E0 => ?_)
  refine Walk.newO (pc' := 3) (wd14 hw) (wd15 hw) (wd12 hw) d_prog_8_method_4_code_0 (by decide) (by decide) (fun h203 x205 g206 g207 g208 K204 E209 D210 => ?_)
  have F211 : Fld Z h203 x205 "com/example/indexwerk/indexwerk/Weight" "numerator" "Ljava/math/BigDecimal;" .null := D210 (Or.inr (wd29 hw)) (ty := (.object "java/math/BigDecimal")) (by decide)
  have F212 : Fld Z h203 x205 "com/example/indexwerk/indexwerk/Weight" "denominator" "Ljava/math/BigDecimal;" .null := D210 (Or.inr (wd31 hw)) (ty := (.object "java/math/BigDecimal")) (by decide)
  refine Walk.dup (pc' := 4) d_prog_8_method_4_code_3 rfl ?_
  refine Walk.getS (pc' := 7) (wd16 hw) Via.refl X.s1 d_prog_8_method_4_code_4 ?_
  refine Walk.iloadN (pc' := 8) d_prog_8_method_4_code_7 rfl ?_
  refine Walk.i2l (pc' := 9) d_prog_8_method_4_code_8 ?_
  refine Walk.callS (pc' := 12) (Wd := 3) (as := [(.long (Int32.toInt64 n))]) (rest := [(.ref one), (.ref x205), (.ref x205)]) (wd18 hw) (wd19 hw) (wd17 hw) (wd20 hw) ((c_vo hw n.toInt64 (own_i32ne n) X).pay (wd20 hw) (wd17 hw) (by decide) (by decide)) (hlen := lenOf pd4 rfl) (hd := d_prog_8_method_4_code_9) (hst := rfl) (hW := Nat.le_of_eq rfl) (hsz := rfl) (hc1 := Nat.le_of_ble_eq_true rfl) (hl1 := Nat.le_of_ble_eq_true rfl) (hv := Fw.upN) (kk := fun v215 h219 Ts216 Li217 q218 K220 => ?_)
  obtain ⟨⟨x213, rfl, B214⟩, rfl, rfl⟩ := q218
  show Walk _ _ _ _ _ _ _ _ _ _ _ _ _ _ 2 7 12 _ [(.ref x213), (.ref one), (.ref x205), (.ref x205)]
  refine Walk.callI (pc' := 15) (a := x205) (Wd := 1) (as := [(.ref one), (.ref x213)]) (rest := [(.ref x205)]) (wd22 hw) (wd23 hw) (wd24 hw) ((c_wi hw x205 one x213 (E209.kq K220) (F211.kq K220 (fun q => q)) (F212.kq K220 (fun q => q)) g208).pay (wd24 hw) (wd12 hw) (by decide) (by decide)) (hlen := lenOf pd11 rfl) (hd := d_prog_8_method_4_code_12) (hst := rfl) (hW := Nat.le_of_eq rfl) (hsz := rfl) (hc1 := Nat.le_of_ble_eq_true rfl) (hl1 := Nat.le_of_ble_eq_true rfl) (hv := (Fw.up (fun y q => Or.inl (q ▸ g207)))) (kk := fun v221 h225 Ts222 Li223 q224 K226 => ?_)
  obtain ⟨⟨rfl, rfl, rfl⟩, G1, G2⟩ := q224
  show Walk _ _ _ _ _ _ _ _ _ _ _ _ _ _ 2 7 15 _ [(.ref x205)]
  exact Walk.aret d_prog_8_method_4_code_15 rfl rfl rfl ⟨⟨_, _, rfl, ((E209.kq K220).kq K226), G1, G2, ⟨(B214.1.kq K226), (B214.2.1.kq K226 (nwb (Ne.symm (Exa.ne (E209.kq K220) B214.1 (by decide))))), (B214.2.2.kq K226 (nwb (Ne.symm (Exa.ne (E209.kq K220) B214.1 (by decide)))))⟩⟩, rfl, rfl⟩ (fun _ q => q) (Nat.le_of_ble_eq_true rfl) (Nat.le_of_ble_eq_true rfl)
set_option maxRecDepth 65536 in
set_option maxHeartbeats 40000000 in
theorem c_lm0 {Z : State} {a0 : Array Value} (hw : ∀ d ∈ tables_1, d.before a0 Z = true) {h : Heap} {Ts : TsT} {Li : LiT} (a : Int64) :
    Con Z (⟨"java/math/BigDecimal", "longMultiplyPowerTen", "(JI)J"⟩ : MethodName) jdk_17_method_97_code 7 (some .long) ({ frames := 1, cells := 0, slots := 0, locals := 13 } : Room) [(.long a), (.int (0 : Int32))] h Ts Li (noW) (Pu (some (.long a)) h Ts Li) := by
  refine Con.of (ws := Fw h noW) (Ls := #[.val (.long a), .second, .val (.int (0 : Int32)), .unset, .unset, .unset, .unset]) (plainFor_of_name pn0) (fun m => by simp [entryFrame, mkF, argsToLocals, cat_i, cat_j, cat_r, cat_n]) (fun E0 => ?_)
  refine Walk.lloadN (pc' := 1) d_jdk_17_method_97_code_0 rfl ?_
  refine Walk.lconst (pc' := 2) (0 : Int64) d_jdk_17_method_97_code_1 rfl ?_
  refine Walk.lcmp (pc' := 3) d_jdk_17_method_97_code_2 ?_
  by_cases h0 : a = (0 : Int64)
  · skip
    refine Walk.ifYes (pc' := 10) d_jdk_17_method_97_code_3 (XT.ll_eq_t h0) ?_
    refine Walk.lloadN (pc' := 11) d_jdk_17_method_97_code_10 rfl ?_
    exact Walk.lret d_jdk_17_method_97_code_11 rfl ⟨rfl, rfl, rfl, rfl⟩ (fun _ q => q) (Nat.le_of_ble_eq_true rfl) (Nat.le_of_ble_eq_true rfl)
  · skip
    refine Walk.ifNo (pc' := 6) d_jdk_17_method_97_code_3 (XT.ll_eq_f h0) ?_
    refine Walk.iloadN (pc' := 7) d_jdk_17_method_97_code_6 rfl ?_
    refine Walk.ifNo (pc' := 10) d_jdk_17_method_97_code_7 (XT.i0_gt_f (by decide)) ?_
    refine Walk.lloadN (pc' := 11) d_jdk_17_method_97_code_10 rfl ?_
    exact Walk.lret d_jdk_17_method_97_code_11 rfl ⟨rfl, rfl, rfl, rfl⟩ (fun _ q => q) (Nat.le_of_ble_eq_true rfl) (Nat.le_of_ble_eq_true rfl)
set_option maxRecDepth 65536 in
set_option maxHeartbeats 40000000 in
theorem c_lm1 {Z : State} {a0 : Array Value} (hw : ∀ d ∈ tables_1, d.before a0 Z = true) {h : Heap} {Ts : TsT} {Li : LiT} (a p : Int64) (hp : a * 10 = p) (hT : ∀ m, ((a < 0 ∧ m = -a) ∨ (¬ a < 0 ∧ m = a)) → ¬ (922337203685477580 : Int64) < m) {one z10 zs tp th hu : Addr} {f g t1 t2 : Nat → Value} (X : Sx Z one z10 zs tp th hu f g t1 t2) :
    Con Z (⟨"java/math/BigDecimal", "longMultiplyPowerTen", "(JI)J"⟩ : MethodName) jdk_17_method_97_code 7 (some .long) ({ frames := 1, cells := 0, slots := 0, locals := 13 } : Room) [(.long a), (.int (1 : Int32))] h Ts Li (noW) (Pu (some (.long p)) h Ts Li) := by
  refine Con.of (ws := Fw h noW) (Ls := #[.val (.long a), .second, .val (.int (1 : Int32)), .unset, .unset, .unset, .unset]) (plainFor_of_name pn0) (fun m => by simp [entryFrame, mkF, argsToLocals, cat_i, cat_j, cat_r, cat_n]) (fun E0 => ?_)
  refine Walk.lloadN (pc' := 1) d_jdk_17_method_97_code_0 rfl ?_
  refine Walk.lconst (pc' := 2) (0 : Int64) d_jdk_17_method_97_code_1 rfl ?_
  refine Walk.lcmp (pc' := 3) d_jdk_17_method_97_code_2 ?_
  by_cases h0 : a = (0 : Int64)
  · skip
    refine Walk.ifYes (pc' := 10) d_jdk_17_method_97_code_3 (XT.ll_eq_t h0) ?_
    refine Walk.lloadN (pc' := 11) d_jdk_17_method_97_code_10 rfl ?_
    exact Walk.lret d_jdk_17_method_97_code_11 rfl ⟨by rw [← hp, h0]; rfl, rfl, rfl, rfl⟩ (fun _ q => q) (Nat.le_of_ble_eq_true rfl) (Nat.le_of_ble_eq_true rfl)
  · skip
    refine Walk.ifNo (pc' := 6) d_jdk_17_method_97_code_3 (XT.ll_eq_f h0) ?_
    refine Walk.iloadN (pc' := 7) d_jdk_17_method_97_code_6 rfl ?_
    refine Walk.ifYes (pc' := 12) d_jdk_17_method_97_code_7 (XT.i0_gt_t (by decide)) ?_
    refine Walk.getS (pc' := 15) (wd84 hw) Via.refl X.s4 d_jdk_17_method_97_code_12 ?_
    refine Walk.astoreN (pc' := 16) (Ls' := #[.val (.long a), .second, .val (.int (1 : Int32)), .val (.ref tp), .unset, .unset, .unset]) d_jdk_17_method_97_code_15 rfl rfl ?_
    refine Walk.getS (pc' := 19) (wd88 hw) Via.refl X.s5 d_jdk_17_method_97_code_16 ?_
    refine Walk.astore (pc' := 21) (Ls' := #[.val (.long a), .second, .val (.int (1 : Int32)), .val (.ref tp), .val (.ref th), .unset, .unset]) d_jdk_17_method_97_code_19 rfl rfl ?_
    refine Walk.iloadN (pc' := 22) d_jdk_17_method_97_code_21 rfl ?_
    refine Walk.aloadN (pc' := 23) d_jdk_17_method_97_code_22 rfl rfl ?_
    refine Walk.alen (pc' := 24) (z := (19 : Int32)) (X.a4.kq (Kq.of_ext E0) (fun _ q => q)) d_jdk_17_method_97_code_23 rfl ?_
    refine Walk.icNo (pc' := 27) d_jdk_17_method_97_code_24 (XT.ii_ge_f (by decide)) ?_
    refine Walk.iloadN (pc' := 28) d_jdk_17_method_97_code_27 rfl ?_
    refine Walk.aload (pc' := 30) d_jdk_17_method_97_code_28 rfl rfl ?_
    refine Walk.alen (pc' := 31) (z := (19 : Int32)) (X.a5.kq (Kq.of_ext E0) (fun _ q => q)) d_jdk_17_method_97_code_30 rfl ?_
    refine Walk.icNo (pc' := 34) d_jdk_17_method_97_code_31 (XT.ii_ge_f (by decide)) ?_
    refine Walk.aloadN (pc' := 35) d_jdk_17_method_97_code_34 rfl rfl ?_
    refine Walk.iloadN (pc' := 36) d_jdk_17_method_97_code_35 rfl ?_
    refine Walk.laload (pc' := 37) (i := 1) (X.a4.kq (Kq.of_ext E0) (fun _ q => q)) d_jdk_17_method_97_code_36 (by decide) rfl (by decide) X.p1 ?_
    refine Walk.lstore (pc' := 39) (Ls' := #[.val (.long a), .second, .val (.int (1 : Int32)), .val (.ref tp), .val (.ref th), .val (.long (10 : Int64)), .second]) d_jdk_17_method_97_code_37 rfl ?_
    refine Walk.lloadN (pc' := 40) d_jdk_17_method_97_code_39 rfl ?_
    refine Walk.lconst (pc' := 41) (1 : Int64) d_jdk_17_method_97_code_40 rfl ?_
    refine Walk.lcmp (pc' := 42) d_jdk_17_method_97_code_41 ?_
    by_cases h1 : a = (1 : Int64)
    · skip
      refine Walk.ifNo (pc' := 45) d_jdk_17_method_97_code_42 (XT.ll_ne_f h1) ?_
      refine Walk.lload (pc' := 47) d_jdk_17_method_97_code_45 rfl ?_
      exact Walk.lret d_jdk_17_method_97_code_47 rfl ⟨by rw [← hp, h1]; rfl, rfl, rfl, rfl⟩ (fun _ q => q) (Nat.le_of_ble_eq_true rfl) (Nat.le_of_ble_eq_true rfl)
    · skip
      obtain ⟨m, g1⟩ := own_abs a
      refine Walk.ifYes (pc' := 48) d_jdk_17_method_97_code_42 (XT.ll_ne_t h1) ?_
      refine Walk.lloadN (pc' := 49) d_jdk_17_method_97_code_48 rfl ?_
      refine Walk.callS (pc' := 52) (Wd := 0) (as := [(.long a)]) (rest := []) (wd59 hw) (wd7 hw) (wd3 hw) (wd8 hw) ((c_abs hw a m g1).pay (wd8 hw) (wd3 hw) (by decide) (by decide)) (hlen := lenOf pd6 rfl) (hd := d_jdk_17_method_97_code_49) (hst := rfl) (hW := Nat.le_of_eq rfl) (hsz := rfl) (hc1 := Nat.le_of_ble_eq_true rfl) (hl1 := Nat.le_of_ble_eq_true rfl) (hv := Fw.upN) (kk := fun v227 h231 Ts228 Li229 q230 K232 => ?_)
      obtain ⟨rfl, rfl, rfl, rfl⟩ := q230
      show Walk _ _ _ _ _ _ _ _ _ _ _ _ _ _ 0 0 52 _ [(.long m)]
      refine Walk.aload (pc' := 54) d_jdk_17_method_97_code_52 rfl rfl ?_
      refine Walk.iloadN (pc' := 55) d_jdk_17_method_97_code_54 rfl ?_
      refine Walk.laload (pc' := 56) (i := 1) (X.a5.kq (Kq.of_ext E0) (fun _ q => q)) d_jdk_17_method_97_code_55 (by decide) rfl (by decide) X.q1 ?_
      refine Walk.lcmp (pc' := 57) d_jdk_17_method_97_code_56 ?_
      refine Walk.ifNo (pc' := 60) d_jdk_17_method_97_code_57 (XT.ll_gt_f (hT m g1)) ?_
      refine Walk.lloadN (pc' := 61) d_jdk_17_method_97_code_60 rfl ?_
      refine Walk.lload (pc' := 63) d_jdk_17_method_97_code_61 rfl ?_
      refine Walk.lmul (pc' := 64) d_jdk_17_method_97_code_63 ?_
      exact Walk.lret d_jdk_17_method_97_code_64 rfl ⟨by rw [← hp], rfl, rfl, rfl⟩ (fun _ q => q) (Nat.le_of_ble_eq_true rfl) (Nat.le_of_ble_eq_true rfl)
set_option maxRecDepth 65536 in
set_option maxHeartbeats 40000000 in
theorem c_lm2 {Z : State} {a0 : Array Value} (hw : ∀ d ∈ tables_1, d.before a0 Z = true) {h : Heap} {Ts : TsT} {Li : LiT} (a p : Int64) (hp : a * 100 = p) (hT : ∀ m, ((a < 0 ∧ m = -a) ∨ (¬ a < 0 ∧ m = a)) → ¬ (92233720368547758 : Int64) < m) {one z10 zs tp th hu : Addr} {f g t1 t2 : Nat → Value} (X : Sx Z one z10 zs tp th hu f g t1 t2) :
    Con Z (⟨"java/math/BigDecimal", "longMultiplyPowerTen", "(JI)J"⟩ : MethodName) jdk_17_method_97_code 7 (some .long) ({ frames := 1, cells := 0, slots := 0, locals := 13 } : Room) [(.long a), (.int (2 : Int32))] h Ts Li (noW) (Pu (some (.long p)) h Ts Li) := by
  refine Con.of (ws := Fw h noW) (Ls := #[.val (.long a), .second, .val (.int (2 : Int32)), .unset, .unset, .unset, .unset]) (plainFor_of_name pn0) (fun m => by simp [entryFrame, mkF, argsToLocals, cat_i, cat_j, cat_r, cat_n]) (fun E0 => ?_)
  refine Walk.lloadN (pc' := 1) d_jdk_17_method_97_code_0 rfl ?_
  refine Walk.lconst (pc' := 2) (0 : Int64) d_jdk_17_method_97_code_1 rfl ?_
  refine Walk.lcmp (pc' := 3) d_jdk_17_method_97_code_2 ?_
  by_cases h0 : a = (0 : Int64)
  · skip
    refine Walk.ifYes (pc' := 10) d_jdk_17_method_97_code_3 (XT.ll_eq_t h0) ?_
    refine Walk.lloadN (pc' := 11) d_jdk_17_method_97_code_10 rfl ?_
    exact Walk.lret d_jdk_17_method_97_code_11 rfl ⟨by rw [← hp, h0]; rfl, rfl, rfl, rfl⟩ (fun _ q => q) (Nat.le_of_ble_eq_true rfl) (Nat.le_of_ble_eq_true rfl)
  · skip
    refine Walk.ifNo (pc' := 6) d_jdk_17_method_97_code_3 (XT.ll_eq_f h0) ?_
    refine Walk.iloadN (pc' := 7) d_jdk_17_method_97_code_6 rfl ?_
    refine Walk.ifYes (pc' := 12) d_jdk_17_method_97_code_7 (XT.i0_gt_t (by decide)) ?_
    refine Walk.getS (pc' := 15) (wd84 hw) Via.refl X.s4 d_jdk_17_method_97_code_12 ?_
    refine Walk.astoreN (pc' := 16) (Ls' := #[.val (.long a), .second, .val (.int (2 : Int32)), .val (.ref tp), .unset, .unset, .unset]) d_jdk_17_method_97_code_15 rfl rfl ?_
    refine Walk.getS (pc' := 19) (wd88 hw) Via.refl X.s5 d_jdk_17_method_97_code_16 ?_
    refine Walk.astore (pc' := 21) (Ls' := #[.val (.long a), .second, .val (.int (2 : Int32)), .val (.ref tp), .val (.ref th), .unset, .unset]) d_jdk_17_method_97_code_19 rfl rfl ?_
    refine Walk.iloadN (pc' := 22) d_jdk_17_method_97_code_21 rfl ?_
    refine Walk.aloadN (pc' := 23) d_jdk_17_method_97_code_22 rfl rfl ?_
    refine Walk.alen (pc' := 24) (z := (19 : Int32)) (X.a4.kq (Kq.of_ext E0) (fun _ q => q)) d_jdk_17_method_97_code_23 rfl ?_
    refine Walk.icNo (pc' := 27) d_jdk_17_method_97_code_24 (XT.ii_ge_f (by decide)) ?_
    refine Walk.iloadN (pc' := 28) d_jdk_17_method_97_code_27 rfl ?_
    refine Walk.aload (pc' := 30) d_jdk_17_method_97_code_28 rfl rfl ?_
    refine Walk.alen (pc' := 31) (z := (19 : Int32)) (X.a5.kq (Kq.of_ext E0) (fun _ q => q)) d_jdk_17_method_97_code_30 rfl ?_
    refine Walk.icNo (pc' := 34) d_jdk_17_method_97_code_31 (XT.ii_ge_f (by decide)) ?_
    refine Walk.aloadN (pc' := 35) d_jdk_17_method_97_code_34 rfl rfl ?_
    refine Walk.iloadN (pc' := 36) d_jdk_17_method_97_code_35 rfl ?_
    refine Walk.laload (pc' := 37) (i := 2) (X.a4.kq (Kq.of_ext E0) (fun _ q => q)) d_jdk_17_method_97_code_36 (by decide) rfl (by decide) X.p2 ?_
    refine Walk.lstore (pc' := 39) (Ls' := #[.val (.long a), .second, .val (.int (2 : Int32)), .val (.ref tp), .val (.ref th), .val (.long (100 : Int64)), .second]) d_jdk_17_method_97_code_37 rfl ?_
    refine Walk.lloadN (pc' := 40) d_jdk_17_method_97_code_39 rfl ?_
    refine Walk.lconst (pc' := 41) (1 : Int64) d_jdk_17_method_97_code_40 rfl ?_
    refine Walk.lcmp (pc' := 42) d_jdk_17_method_97_code_41 ?_
    by_cases h1 : a = (1 : Int64)
    · skip
      refine Walk.ifNo (pc' := 45) d_jdk_17_method_97_code_42 (XT.ll_ne_f h1) ?_
      refine Walk.lload (pc' := 47) d_jdk_17_method_97_code_45 rfl ?_
      exact Walk.lret d_jdk_17_method_97_code_47 rfl ⟨by rw [← hp, h1]; rfl, rfl, rfl, rfl⟩ (fun _ q => q) (Nat.le_of_ble_eq_true rfl) (Nat.le_of_ble_eq_true rfl)
    · skip
      obtain ⟨m, g1⟩ := own_abs a
      refine Walk.ifYes (pc' := 48) d_jdk_17_method_97_code_42 (XT.ll_ne_t h1) ?_
      refine Walk.lloadN (pc' := 49) d_jdk_17_method_97_code_48 rfl ?_
      refine Walk.callS (pc' := 52) (Wd := 0) (as := [(.long a)]) (rest := []) (wd59 hw) (wd7 hw) (wd3 hw) (wd8 hw) ((c_abs hw a m g1).pay (wd8 hw) (wd3 hw) (by decide) (by decide)) (hlen := lenOf pd6 rfl) (hd := d_jdk_17_method_97_code_49) (hst := rfl) (hW := Nat.le_of_eq rfl) (hsz := rfl) (hc1 := Nat.le_of_ble_eq_true rfl) (hl1 := Nat.le_of_ble_eq_true rfl) (hv := Fw.upN) (kk := fun v233 h237 Ts234 Li235 q236 K238 => ?_)
      obtain ⟨rfl, rfl, rfl, rfl⟩ := q236
      show Walk _ _ _ _ _ _ _ _ _ _ _ _ _ _ 0 0 52 _ [(.long m)]
      refine Walk.aload (pc' := 54) d_jdk_17_method_97_code_52 rfl rfl ?_
      refine Walk.iloadN (pc' := 55) d_jdk_17_method_97_code_54 rfl ?_
      refine Walk.laload (pc' := 56) (i := 2) (X.a5.kq (Kq.of_ext E0) (fun _ q => q)) d_jdk_17_method_97_code_55 (by decide) rfl (by decide) X.q2 ?_
      refine Walk.lcmp (pc' := 57) d_jdk_17_method_97_code_56 ?_
      refine Walk.ifNo (pc' := 60) d_jdk_17_method_97_code_57 (XT.ll_gt_f (hT m g1)) ?_
      refine Walk.lloadN (pc' := 61) d_jdk_17_method_97_code_60 rfl ?_
      refine Walk.lload (pc' := 63) d_jdk_17_method_97_code_61 rfl ?_
      refine Walk.lmul (pc' := 64) d_jdk_17_method_97_code_63 ?_
      exact Walk.lret d_jdk_17_method_97_code_64 rfl ⟨by rw [← hp], rfl, rfl, rfl⟩ (fun _ q => q) (Nat.le_of_ble_eq_true rfl) (Nat.le_of_ble_eq_true rfl)
set_option maxRecDepth 65536 in
set_option maxHeartbeats 40000000 in
theorem c_da0 {Z : State} {a0 : Array Value} (hw : ∀ d ∈ tables_1, d.before a0 Z = true) {h : Heap} {Ts : TsT} {Li : LiT} (a b R : Int64) (D : DR a b R) {one z10 zs tp th hu : Addr} {f g t1 t2 : Nat → Value} (X : Sx Z one z10 zs tp th hu f g t1 t2) :
    Con Z (⟨"java/math/BigDecimal", "divideAndRound", "(JJIII)Ljava/math/BigDecimal;"⟩ : MethodName) jdk_17_method_119_code 13 (some (.object "java/math/BigDecimal")) ({ frames := 5, cells := 1, slots := 5, locals := 69 } : Room) [(.long a), (.long b), (.int (0 : Int32)), (.int (4 : Int32)), (.int (0 : Int32))] h Ts Li (noW) (fun v' h' Ts' Li' => (∃ x, v' = some (.ref x) ∧ Bd Z h' x R 0) ∧ Ts' = Ts ∧ Li' = Li) := by
  refine Con.of (ws := Fw h noW) (Ls := #[.val (.long a), .second, .val (.long b), .second, .val (.int (0 : Int32)), .val (.int (4 : Int32)), .val (.int (0 : Int32)), .unset, .unset, .unset, .unset, .unset, .unset]) (plainFor_of_name pn0) (fun m => by simp [entryFrame, mkF, argsToLocals, cat_i, cat_j, cat_r, cat_n]) (fun E0 => ?_)
  refine Walk.lloadN (pc' := 1) d_jdk_17_method_119_code_0 rfl ?_
  refine Walk.lloadN (pc' := 2) d_jdk_17_method_119_code_1 rfl ?_
  refine Walk.ldiv (pc' := 3) d_jdk_17_method_119_code_2 D.bne ?_
  refine Walk.lstore (pc' := 5) (Ls' := #[.val (.long a), .second, .val (.long b), .second, .val (.int (0 : Int32)), .val (.int (4 : Int32)), .val (.int (0 : Int32)), .unset, .val (.long (a / b)), .second, .unset, .unset, .unset]) d_jdk_17_method_119_code_3 rfl ?_
  refine Walk.iload (pc' := 7) d_jdk_17_method_119_code_5 rfl ?_
  refine Walk.iconst (pc' := 8) (1 : Int32) d_jdk_17_method_119_code_7 rfl ?_
  refine Walk.icYes (pc' := 26) d_jdk_17_method_119_code_8 (XT.ii_ne_t (by decide)) ?_
  refine Walk.lloadN (pc' := 27) d_jdk_17_method_119_code_26 rfl ?_
  refine Walk.lloadN (pc' := 28) d_jdk_17_method_119_code_27 rfl ?_
  refine Walk.lrem (pc' := 29) d_jdk_17_method_119_code_28 D.bne ?_
  refine Walk.lstore (pc' := 31) (Ls' := #[.val (.long a), .second, .val (.long b), .second, .val (.int (0 : Int32)), .val (.int (4 : Int32)), .val (.int (0 : Int32)), .unset, .val (.long (a / b)), .second, .val (.long (a - ((a / b) * b))), .second, .unset]) d_jdk_17_method_119_code_29 rfl ?_
  refine Walk.lloadN (pc' := 32) d_jdk_17_method_119_code_31 rfl ?_
  refine Walk.lconst (pc' := 33) (0 : Int64) d_jdk_17_method_119_code_32 rfl ?_
  refine Walk.lcmp (pc' := 34) d_jdk_17_method_119_code_33 ?_
  by_cases ha : a < (0 : Int64)
  · skip
    refine Walk.ifNo (pc' := 37) d_jdk_17_method_119_code_34 (XT.ll_ge_f ha) ?_
    refine Walk.iconst (pc' := 38) (1 : Int32) d_jdk_17_method_119_code_37 rfl ?_
    refine Walk.goto (pc' := 42) d_jdk_17_method_119_code_38 ?_
    refine Walk.lloadN (pc' := 43) d_jdk_17_method_119_code_42 rfl ?_
    refine Walk.lconst (pc' := 44) (0 : Int64) d_jdk_17_method_119_code_43 rfl ?_
    refine Walk.lcmp (pc' := 45) d_jdk_17_method_119_code_44 ?_
    refine Walk.ifYes (pc' := 52) d_jdk_17_method_119_code_45 (XT.ll_ge_t D.bpos) ?_
    refine Walk.iconst (pc' := 53) (0 : Int32) d_jdk_17_method_119_code_52 rfl ?_
    refine Walk.icYes (pc' := 60) d_jdk_17_method_119_code_53 (XT.ii_ne_t (by decide)) ?_
    refine Walk.iconst (pc' := 61) (-1 : Int32) d_jdk_17_method_119_code_60 rfl ?_
    refine Walk.istore (pc' := 63) (Ls' := #[.val (.long a), .second, .val (.long b), .second, .val (.int (0 : Int32)), .val (.int (4 : Int32)), .val (.int (0 : Int32)), .val (.int (-1 : Int32)), .val (.long (a / b)), .second, .val (.long (a - ((a / b) * b))), .second, .unset]) d_jdk_17_method_119_code_61 rfl ?_
    refine Walk.lload (pc' := 65) d_jdk_17_method_119_code_63 rfl ?_
    refine Walk.lconst (pc' := 66) (0 : Int64) d_jdk_17_method_119_code_65 rfl ?_
    refine Walk.lcmp (pc' := 67) d_jdk_17_method_119_code_66 ?_
    by_cases hr : (a - ((a / b) * b)) = (0 : Int64)
    · skip
      refine Walk.ifYes (pc' := 106) d_jdk_17_method_119_code_67 (XT.ll_eq_t hr) ?_
      refine Walk.iload (pc' := 108) d_jdk_17_method_119_code_106 rfl ?_
      refine Walk.iload (pc' := 110) d_jdk_17_method_119_code_108 rfl ?_
      refine Walk.icYes (pc' := 124) d_jdk_17_method_119_code_110 (XT.ii_eq_t rfl) ?_
      refine Walk.lload (pc' := 126) d_jdk_17_method_119_code_124 rfl ?_
      refine Walk.iload (pc' := 128) d_jdk_17_method_119_code_126 rfl ?_
      refine Walk.callS (pc' := 131) (Wd := 0) (as := [(.long (a / b)), (.int (0 : Int32))]) (rest := []) (wd60 hw) (wd61 hw) (wd17 hw) (wd62 hw) ((c_vo20 hw (a / b) (D.exact hr ▸ D.ne) X).pay (wd62 hw) (wd17 hw) (by decide) (by decide)) (hlen := lenOf pd8 rfl) (hd := d_jdk_17_method_119_code_128) (hst := rfl) (hW := Nat.le_of_eq rfl) (hsz := rfl) (hc1 := Nat.le_of_ble_eq_true rfl) (hl1 := Nat.le_of_ble_eq_true rfl) (hv := Fw.upN) (kk := fun v241 h245 Ts242 Li243 q244 K246 => ?_)
      obtain ⟨⟨x239, rfl, B240⟩, rfl, rfl⟩ := q244
      show Walk _ _ _ _ _ _ _ _ _ _ _ _ _ _ 1 5 131 _ [(.ref x239)]
      rw [D.exact hr] at *
      exact Walk.aret d_jdk_17_method_119_code_131 rfl rfl rfl ⟨⟨_, rfl, ⟨B240.1, B240.2.1, B240.2.2⟩⟩, rfl, rfl⟩ (fun _ q => q) (Nat.le_of_ble_eq_true rfl) (Nat.le_of_ble_eq_true rfl)
    · skip
      obtain ⟨m, hm, hz⟩ := D.mag
      refine Walk.ifNo (pc' := 70) d_jdk_17_method_119_code_67 (XT.ll_eq_f hr) ?_
      refine Walk.lloadN (pc' := 71) d_jdk_17_method_119_code_70 rfl ?_
      refine Walk.iload (pc' := 73) d_jdk_17_method_119_code_71 rfl ?_
      refine Walk.iload (pc' := 75) d_jdk_17_method_119_code_73 rfl ?_
      refine Walk.lload (pc' := 77) d_jdk_17_method_119_code_75 rfl ?_
      refine Walk.lload (pc' := 79) d_jdk_17_method_119_code_77 rfl ?_
      rcases hz with ⟨hz, hR⟩ | ⟨hz, hR⟩
      · skip
        refine Walk.callS (pc' := 82) (Wd := 0) (as := [(.long b), (.int (4 : Int32)), (.int (-1 : Int32)), (.long (a / b)), (.long (a - ((a / b) * b)))]) (rest := []) (wd115 hw) (wd116 hw) (wd17 hw) (wd117 hw) ((c_ni hw b (a / b) (a - a / b * b) m (-1) 0 X D.lo D.hi hm D.bpos (Or.inl ⟨hz, rfl⟩)).pay (wd117 hw) (wd17 hw) (by decide) (by decide)) (hlen := lenOf pd12 rfl) (hd := d_jdk_17_method_119_code_79) (hst := rfl) (hW := Nat.le_of_eq rfl) (hsz := rfl) (hc1 := Nat.le_of_ble_eq_true rfl) (hl1 := Nat.le_of_ble_eq_true rfl) (hv := Fw.upN) (kk := fun v247 h251 Ts248 Li249 q250 K252 => ?_)
        obtain ⟨rfl, rfl, rfl, rfl⟩ := q250
        show Walk _ _ _ _ _ _ _ _ _ _ _ _ _ _ 0 0 82 _ [(.int (0 : Int32))]
        refine Walk.istore (pc' := 84) (Ls' := #[.val (.long a), .second, .val (.long b), .second, .val (.int (0 : Int32)), .val (.int (4 : Int32)), .val (.int (0 : Int32)), .val (.int (-1 : Int32)), .val (.long (a / b)), .second, .val (.long (a - ((a / b) * b))), .second, .val (.int (0 : Int32))]) d_jdk_17_method_119_code_82 rfl ?_
        refine Walk.iload (pc' := 86) d_jdk_17_method_119_code_84 rfl ?_
        refine Walk.ifYes (pc' := 98) d_jdk_17_method_119_code_86 (XT.i0_eq_t rfl) ?_
        refine Walk.lload (pc' := 100) d_jdk_17_method_119_code_98 rfl ?_
        refine Walk.iload (pc' := 102) d_jdk_17_method_119_code_100 rfl ?_
        rw [show (a / b) = R from hR]
        show Walk _ _ _ _ _ _ _ _ _ _ _ _ _ _ 0 0 102 _ [(.int (0 : Int32)), (.long R)]
        refine Walk.callS (pc' := 105) (Wd := 0) (as := [(.long R), (.int (0 : Int32))]) (rest := []) (wd60 hw) (wd61 hw) (wd17 hw) (wd62 hw) ((c_vo20 hw R D.ne X).pay (wd62 hw) (wd17 hw) (by decide) (by decide)) (hlen := lenOf pd8 rfl) (hd := d_jdk_17_method_119_code_102) (hst := rfl) (hW := Nat.le_of_eq rfl) (hsz := rfl) (hc1 := Nat.le_of_ble_eq_true rfl) (hl1 := Nat.le_of_ble_eq_true rfl) (hv := Fw.upN) (kk := fun v255 h259 Ts256 Li257 q258 K260 => ?_)
        obtain ⟨⟨x253, rfl, B254⟩, rfl, rfl⟩ := q258
        show Walk _ _ _ _ _ _ _ _ _ _ _ _ _ _ 1 5 105 _ [(.ref x253)]
        exact Walk.aret d_jdk_17_method_119_code_105 rfl rfl rfl ⟨⟨_, rfl, ⟨B254.1, B254.2.1, B254.2.2⟩⟩, rfl, rfl⟩ (fun _ q => q) (Nat.le_of_ble_eq_true rfl) (Nat.le_of_ble_eq_true rfl)
      · skip
        obtain hR : a / b + Int32.toInt64 (-1) = R := hR.elim (fun q => q.2) (fun q => absurd ha q.1)
        refine Walk.callS (pc' := 82) (Wd := 0) (as := [(.long b), (.int (4 : Int32)), (.int (-1 : Int32)), (.long (a / b)), (.long (a - ((a / b) * b)))]) (rest := []) (wd115 hw) (wd116 hw) (wd17 hw) (wd117 hw) ((c_ni hw b (a / b) (a - a / b * b) m (-1) 1 X D.lo D.hi hm D.bpos (Or.inr ⟨hz, rfl⟩)).pay (wd117 hw) (wd17 hw) (by decide) (by decide)) (hlen := lenOf pd12 rfl) (hd := d_jdk_17_method_119_code_79) (hst := rfl) (hW := Nat.le_of_eq rfl) (hsz := rfl) (hc1 := Nat.le_of_ble_eq_true rfl) (hl1 := Nat.le_of_ble_eq_true rfl) (hv := Fw.upN) (kk := fun v261 h265 Ts262 Li263 q264 K266 => ?_)
        obtain ⟨rfl, rfl, rfl, rfl⟩ := q264
        show Walk _ _ _ _ _ _ _ _ _ _ _ _ _ _ 0 0 82 _ [(.int (1 : Int32))]
        refine Walk.istore (pc' := 84) (Ls' := #[.val (.long a), .second, .val (.long b), .second, .val (.int (0 : Int32)), .val (.int (4 : Int32)), .val (.int (0 : Int32)), .val (.int (-1 : Int32)), .val (.long (a / b)), .second, .val (.long (a - ((a / b) * b))), .second, .val (.int (1 : Int32))]) d_jdk_17_method_119_code_82 rfl ?_
        refine Walk.iload (pc' := 86) d_jdk_17_method_119_code_84 rfl ?_
        refine Walk.ifNo (pc' := 89) d_jdk_17_method_119_code_86 (XT.i0_eq_f (by decide)) ?_
        refine Walk.lload (pc' := 91) d_jdk_17_method_119_code_89 rfl ?_
        refine Walk.iload (pc' := 93) d_jdk_17_method_119_code_91 rfl ?_
        refine Walk.i2l (pc' := 94) d_jdk_17_method_119_code_93 ?_
        refine Walk.ladd (pc' := 95) d_jdk_17_method_119_code_94 ?_
        refine Walk.goto (pc' := 100) d_jdk_17_method_119_code_95 ?_
        refine Walk.iload (pc' := 102) d_jdk_17_method_119_code_100 rfl ?_
        rw [show ((a / b) + (Int32.toInt64 (-1 : Int32))) = R from hR]
        show Walk _ _ _ _ _ _ _ _ _ _ _ _ _ _ 0 0 102 _ [(.int (0 : Int32)), (.long R)]
        refine Walk.callS (pc' := 105) (Wd := 0) (as := [(.long R), (.int (0 : Int32))]) (rest := []) (wd60 hw) (wd61 hw) (wd17 hw) (wd62 hw) ((c_vo20 hw R D.ne X).pay (wd62 hw) (wd17 hw) (by decide) (by decide)) (hlen := lenOf pd8 rfl) (hd := d_jdk_17_method_119_code_102) (hst := rfl) (hW := Nat.le_of_eq rfl) (hsz := rfl) (hc1 := Nat.le_of_ble_eq_true rfl) (hl1 := Nat.le_of_ble_eq_true rfl) (hv := Fw.upN) (kk := fun v269 h273 Ts270 Li271 q272 K274 => ?_)
        obtain ⟨⟨x267, rfl, B268⟩, rfl, rfl⟩ := q272
        show Walk _ _ _ _ _ _ _ _ _ _ _ _ _ _ 1 5 105 _ [(.ref x267)]
        exact Walk.aret d_jdk_17_method_119_code_105 rfl rfl rfl ⟨⟨_, rfl, ⟨B268.1, B268.2.1, B268.2.2⟩⟩, rfl, rfl⟩ (fun _ q => q) (Nat.le_of_ble_eq_true rfl) (Nat.le_of_ble_eq_true rfl)
  · skip
    refine Walk.ifYes (pc' := 41) d_jdk_17_method_119_code_34 (XT.ll_ge_t ha) ?_
    refine Walk.iconst (pc' := 42) (0 : Int32) d_jdk_17_method_119_code_41 rfl ?_
    refine Walk.lloadN (pc' := 43) d_jdk_17_method_119_code_42 rfl ?_
    refine Walk.lconst (pc' := 44) (0 : Int64) d_jdk_17_method_119_code_43 rfl ?_
    refine Walk.lcmp (pc' := 45) d_jdk_17_method_119_code_44 ?_
    refine Walk.ifYes (pc' := 52) d_jdk_17_method_119_code_45 (XT.ll_ge_t D.bpos) ?_
    refine Walk.iconst (pc' := 53) (0 : Int32) d_jdk_17_method_119_code_52 rfl ?_
    refine Walk.icNo (pc' := 56) d_jdk_17_method_119_code_53 (XT.ii_ne_f (by decide)) ?_
    refine Walk.iconst (pc' := 57) (1 : Int32) d_jdk_17_method_119_code_56 rfl ?_
    refine Walk.goto (pc' := 61) d_jdk_17_method_119_code_57 ?_
    refine Walk.istore (pc' := 63) (Ls' := #[.val (.long a), .second, .val (.long b), .second, .val (.int (0 : Int32)), .val (.int (4 : Int32)), .val (.int (0 : Int32)), .val (.int (1 : Int32)), .val (.long (a / b)), .second, .val (.long (a - ((a / b) * b))), .second, .unset]) d_jdk_17_method_119_code_61 rfl ?_
    refine Walk.lload (pc' := 65) d_jdk_17_method_119_code_63 rfl ?_
    refine Walk.lconst (pc' := 66) (0 : Int64) d_jdk_17_method_119_code_65 rfl ?_
    refine Walk.lcmp (pc' := 67) d_jdk_17_method_119_code_66 ?_
    by_cases hr : (a - ((a / b) * b)) = (0 : Int64)
    · skip
      refine Walk.ifYes (pc' := 106) d_jdk_17_method_119_code_67 (XT.ll_eq_t hr) ?_
      refine Walk.iload (pc' := 108) d_jdk_17_method_119_code_106 rfl ?_
      refine Walk.iload (pc' := 110) d_jdk_17_method_119_code_108 rfl ?_
      refine Walk.icYes (pc' := 124) d_jdk_17_method_119_code_110 (XT.ii_eq_t rfl) ?_
      refine Walk.lload (pc' := 126) d_jdk_17_method_119_code_124 rfl ?_
      refine Walk.iload (pc' := 128) d_jdk_17_method_119_code_126 rfl ?_
      refine Walk.callS (pc' := 131) (Wd := 0) (as := [(.long (a / b)), (.int (0 : Int32))]) (rest := []) (wd60 hw) (wd61 hw) (wd17 hw) (wd62 hw) ((c_vo20 hw (a / b) (D.exact hr ▸ D.ne) X).pay (wd62 hw) (wd17 hw) (by decide) (by decide)) (hlen := lenOf pd8 rfl) (hd := d_jdk_17_method_119_code_128) (hst := rfl) (hW := Nat.le_of_eq rfl) (hsz := rfl) (hc1 := Nat.le_of_ble_eq_true rfl) (hl1 := Nat.le_of_ble_eq_true rfl) (hv := Fw.upN) (kk := fun v277 h281 Ts278 Li279 q280 K282 => ?_)
      obtain ⟨⟨x275, rfl, B276⟩, rfl, rfl⟩ := q280
      show Walk _ _ _ _ _ _ _ _ _ _ _ _ _ _ 1 5 131 _ [(.ref x275)]
      rw [D.exact hr] at *
      exact Walk.aret d_jdk_17_method_119_code_131 rfl rfl rfl ⟨⟨_, rfl, ⟨B276.1, B276.2.1, B276.2.2⟩⟩, rfl, rfl⟩ (fun _ q => q) (Nat.le_of_ble_eq_true rfl) (Nat.le_of_ble_eq_true rfl)
    · skip
      obtain ⟨m, hm, hz⟩ := D.mag
      refine Walk.ifNo (pc' := 70) d_jdk_17_method_119_code_67 (XT.ll_eq_f hr) ?_
      refine Walk.lloadN (pc' := 71) d_jdk_17_method_119_code_70 rfl ?_
      refine Walk.iload (pc' := 73) d_jdk_17_method_119_code_71 rfl ?_
      refine Walk.iload (pc' := 75) d_jdk_17_method_119_code_73 rfl ?_
      refine Walk.lload (pc' := 77) d_jdk_17_method_119_code_75 rfl ?_
      refine Walk.lload (pc' := 79) d_jdk_17_method_119_code_77 rfl ?_
      rcases hz with ⟨hz, hR⟩ | ⟨hz, hR⟩
      · skip
        refine Walk.callS (pc' := 82) (Wd := 0) (as := [(.long b), (.int (4 : Int32)), (.int (1 : Int32)), (.long (a / b)), (.long (a - ((a / b) * b)))]) (rest := []) (wd115 hw) (wd116 hw) (wd17 hw) (wd117 hw) ((c_ni hw b (a / b) (a - a / b * b) m 1 0 X D.lo D.hi hm D.bpos (Or.inl ⟨hz, rfl⟩)).pay (wd117 hw) (wd17 hw) (by decide) (by decide)) (hlen := lenOf pd12 rfl) (hd := d_jdk_17_method_119_code_79) (hst := rfl) (hW := Nat.le_of_eq rfl) (hsz := rfl) (hc1 := Nat.le_of_ble_eq_true rfl) (hl1 := Nat.le_of_ble_eq_true rfl) (hv := Fw.upN) (kk := fun v283 h287 Ts284 Li285 q286 K288 => ?_)
        obtain ⟨rfl, rfl, rfl, rfl⟩ := q286
        show Walk _ _ _ _ _ _ _ _ _ _ _ _ _ _ 0 0 82 _ [(.int (0 : Int32))]
        refine Walk.istore (pc' := 84) (Ls' := #[.val (.long a), .second, .val (.long b), .second, .val (.int (0 : Int32)), .val (.int (4 : Int32)), .val (.int (0 : Int32)), .val (.int (1 : Int32)), .val (.long (a / b)), .second, .val (.long (a - ((a / b) * b))), .second, .val (.int (0 : Int32))]) d_jdk_17_method_119_code_82 rfl ?_
        refine Walk.iload (pc' := 86) d_jdk_17_method_119_code_84 rfl ?_
        refine Walk.ifYes (pc' := 98) d_jdk_17_method_119_code_86 (XT.i0_eq_t rfl) ?_
        refine Walk.lload (pc' := 100) d_jdk_17_method_119_code_98 rfl ?_
        refine Walk.iload (pc' := 102) d_jdk_17_method_119_code_100 rfl ?_
        rw [show (a / b) = R from hR]
        show Walk _ _ _ _ _ _ _ _ _ _ _ _ _ _ 0 0 102 _ [(.int (0 : Int32)), (.long R)]
        refine Walk.callS (pc' := 105) (Wd := 0) (as := [(.long R), (.int (0 : Int32))]) (rest := []) (wd60 hw) (wd61 hw) (wd17 hw) (wd62 hw) ((c_vo20 hw R D.ne X).pay (wd62 hw) (wd17 hw) (by decide) (by decide)) (hlen := lenOf pd8 rfl) (hd := d_jdk_17_method_119_code_102) (hst := rfl) (hW := Nat.le_of_eq rfl) (hsz := rfl) (hc1 := Nat.le_of_ble_eq_true rfl) (hl1 := Nat.le_of_ble_eq_true rfl) (hv := Fw.upN) (kk := fun v291 h295 Ts292 Li293 q294 K296 => ?_)
        obtain ⟨⟨x289, rfl, B290⟩, rfl, rfl⟩ := q294
        show Walk _ _ _ _ _ _ _ _ _ _ _ _ _ _ 1 5 105 _ [(.ref x289)]
        exact Walk.aret d_jdk_17_method_119_code_105 rfl rfl rfl ⟨⟨_, rfl, ⟨B290.1, B290.2.1, B290.2.2⟩⟩, rfl, rfl⟩ (fun _ q => q) (Nat.le_of_ble_eq_true rfl) (Nat.le_of_ble_eq_true rfl)
      · skip
        obtain hR : a / b + Int32.toInt64 1 = R := hR.elim (fun q => absurd q.1 ha) (fun q => q.2)
        refine Walk.callS (pc' := 82) (Wd := 0) (as := [(.long b), (.int (4 : Int32)), (.int (1 : Int32)), (.long (a / b)), (.long (a - ((a / b) * b)))]) (rest := []) (wd115 hw) (wd116 hw) (wd17 hw) (wd117 hw) ((c_ni hw b (a / b) (a - a / b * b) m 1 1 X D.lo D.hi hm D.bpos (Or.inr ⟨hz, rfl⟩)).pay (wd117 hw) (wd17 hw) (by decide) (by decide)) (hlen := lenOf pd12 rfl) (hd := d_jdk_17_method_119_code_79) (hst := rfl) (hW := Nat.le_of_eq rfl) (hsz := rfl) (hc1 := Nat.le_of_ble_eq_true rfl) (hl1 := Nat.le_of_ble_eq_true rfl) (hv := Fw.upN) (kk := fun v297 h301 Ts298 Li299 q300 K302 => ?_)
        obtain ⟨rfl, rfl, rfl, rfl⟩ := q300
        show Walk _ _ _ _ _ _ _ _ _ _ _ _ _ _ 0 0 82 _ [(.int (1 : Int32))]
        refine Walk.istore (pc' := 84) (Ls' := #[.val (.long a), .second, .val (.long b), .second, .val (.int (0 : Int32)), .val (.int (4 : Int32)), .val (.int (0 : Int32)), .val (.int (1 : Int32)), .val (.long (a / b)), .second, .val (.long (a - ((a / b) * b))), .second, .val (.int (1 : Int32))]) d_jdk_17_method_119_code_82 rfl ?_
        refine Walk.iload (pc' := 86) d_jdk_17_method_119_code_84 rfl ?_
        refine Walk.ifNo (pc' := 89) d_jdk_17_method_119_code_86 (XT.i0_eq_f (by decide)) ?_
        refine Walk.lload (pc' := 91) d_jdk_17_method_119_code_89 rfl ?_
        refine Walk.iload (pc' := 93) d_jdk_17_method_119_code_91 rfl ?_
        refine Walk.i2l (pc' := 94) d_jdk_17_method_119_code_93 ?_
        refine Walk.ladd (pc' := 95) d_jdk_17_method_119_code_94 ?_
        refine Walk.goto (pc' := 100) d_jdk_17_method_119_code_95 ?_
        refine Walk.iload (pc' := 102) d_jdk_17_method_119_code_100 rfl ?_
        rw [show ((a / b) + (Int32.toInt64 (1 : Int32))) = R from hR]
        show Walk _ _ _ _ _ _ _ _ _ _ _ _ _ _ 0 0 102 _ [(.int (0 : Int32)), (.long R)]
        refine Walk.callS (pc' := 105) (Wd := 0) (as := [(.long R), (.int (0 : Int32))]) (rest := []) (wd60 hw) (wd61 hw) (wd17 hw) (wd62 hw) ((c_vo20 hw R D.ne X).pay (wd62 hw) (wd17 hw) (by decide) (by decide)) (hlen := lenOf pd8 rfl) (hd := d_jdk_17_method_119_code_102) (hst := rfl) (hW := Nat.le_of_eq rfl) (hsz := rfl) (hc1 := Nat.le_of_ble_eq_true rfl) (hl1 := Nat.le_of_ble_eq_true rfl) (hv := Fw.upN) (kk := fun v305 h309 Ts306 Li307 q308 K310 => ?_)
        obtain ⟨⟨x303, rfl, B304⟩, rfl, rfl⟩ := q308
        show Walk _ _ _ _ _ _ _ _ _ _ _ _ _ _ 1 5 105 _ [(.ref x303)]
        exact Walk.aret d_jdk_17_method_119_code_105 rfl rfl rfl ⟨⟨_, rfl, ⟨B304.1, B304.2.1, B304.2.2⟩⟩, rfl, rfl⟩ (fun _ q => q) (Nat.le_of_ble_eq_true rfl) (Nat.le_of_ble_eq_true rfl)
set_option maxRecDepth 65536 in
set_option maxHeartbeats 40000000 in
theorem c_da1 {Z : State} {a0 : Array Value} (hw : ∀ d ∈ tables_1, d.before a0 Z = true) {h : Heap} {Ts : TsT} {Li : LiT} (a b R : Int64) (D : DR a b R) {one z10 zs tp th hu : Addr} {f g t1 t2 : Nat → Value} (X : Sx Z one z10 zs tp th hu f g t1 t2) :
    Con Z (⟨"java/math/BigDecimal", "divideAndRound", "(JJIII)Ljava/math/BigDecimal;"⟩ : MethodName) jdk_17_method_119_code 13 (some (.object "java/math/BigDecimal")) ({ frames := 5, cells := 1, slots := 5, locals := 69 } : Room) [(.long a), (.long b), (.int (1 : Int32)), (.int (4 : Int32)), (.int (1 : Int32))] h Ts Li (noW) (fun v' h' Ts' Li' => (∃ x, v' = some (.ref x) ∧ Bd Z h' x R 1) ∧ Ts' = Ts ∧ Li' = Li) := by
  refine Con.of (ws := Fw h noW) (Ls := #[.val (.long a), .second, .val (.long b), .second, .val (.int (1 : Int32)), .val (.int (4 : Int32)), .val (.int (1 : Int32)), .unset, .unset, .unset, .unset, .unset, .unset]) (plainFor_of_name pn0) (fun m => by simp [entryFrame, mkF, argsToLocals, cat_i, cat_j, cat_r, cat_n]) (fun E0 => ?_)
  refine Walk.lloadN (pc' := 1) d_jdk_17_method_119_code_0 rfl ?_
  refine Walk.lloadN (pc' := 2) d_jdk_17_method_119_code_1 rfl ?_
  refine Walk.ldiv (pc' := 3) d_jdk_17_method_119_code_2 D.bne ?_
  refine Walk.lstore (pc' := 5) (Ls' := #[.val (.long a), .second, .val (.long b), .second, .val (.int (1 : Int32)), .val (.int (4 : Int32)), .val (.int (1 : Int32)), .unset, .val (.long (a / b)), .second, .unset, .unset, .unset]) d_jdk_17_method_119_code_3 rfl ?_
  refine Walk.iload (pc' := 7) d_jdk_17_method_119_code_5 rfl ?_
  refine Walk.iconst (pc' := 8) (1 : Int32) d_jdk_17_method_119_code_7 rfl ?_
  refine Walk.icYes (pc' := 26) d_jdk_17_method_119_code_8 (XT.ii_ne_t (by decide)) ?_
  refine Walk.lloadN (pc' := 27) d_jdk_17_method_119_code_26 rfl ?_
  refine Walk.lloadN (pc' := 28) d_jdk_17_method_119_code_27 rfl ?_
  refine Walk.lrem (pc' := 29) d_jdk_17_method_119_code_28 D.bne ?_
  refine Walk.lstore (pc' := 31) (Ls' := #[.val (.long a), .second, .val (.long b), .second, .val (.int (1 : Int32)), .val (.int (4 : Int32)), .val (.int (1 : Int32)), .unset, .val (.long (a / b)), .second, .val (.long (a - ((a / b) * b))), .second, .unset]) d_jdk_17_method_119_code_29 rfl ?_
  refine Walk.lloadN (pc' := 32) d_jdk_17_method_119_code_31 rfl ?_
  refine Walk.lconst (pc' := 33) (0 : Int64) d_jdk_17_method_119_code_32 rfl ?_
  refine Walk.lcmp (pc' := 34) d_jdk_17_method_119_code_33 ?_
  by_cases ha : a < (0 : Int64)
  · skip
    refine Walk.ifNo (pc' := 37) d_jdk_17_method_119_code_34 (XT.ll_ge_f ha) ?_
    refine Walk.iconst (pc' := 38) (1 : Int32) d_jdk_17_method_119_code_37 rfl ?_
    refine Walk.goto (pc' := 42) d_jdk_17_method_119_code_38 ?_
    refine Walk.lloadN (pc' := 43) d_jdk_17_method_119_code_42 rfl ?_
    refine Walk.lconst (pc' := 44) (0 : Int64) d_jdk_17_method_119_code_43 rfl ?_
    refine Walk.lcmp (pc' := 45) d_jdk_17_method_119_code_44 ?_
    refine Walk.ifYes (pc' := 52) d_jdk_17_method_119_code_45 (XT.ll_ge_t D.bpos) ?_
    refine Walk.iconst (pc' := 53) (0 : Int32) d_jdk_17_method_119_code_52 rfl ?_
    refine Walk.icYes (pc' := 60) d_jdk_17_method_119_code_53 (XT.ii_ne_t (by decide)) ?_
    refine Walk.iconst (pc' := 61) (-1 : Int32) d_jdk_17_method_119_code_60 rfl ?_
    refine Walk.istore (pc' := 63) (Ls' := #[.val (.long a), .second, .val (.long b), .second, .val (.int (1 : Int32)), .val (.int (4 : Int32)), .val (.int (1 : Int32)), .val (.int (-1 : Int32)), .val (.long (a / b)), .second, .val (.long (a - ((a / b) * b))), .second, .unset]) d_jdk_17_method_119_code_61 rfl ?_
    refine Walk.lload (pc' := 65) d_jdk_17_method_119_code_63 rfl ?_
    refine Walk.lconst (pc' := 66) (0 : Int64) d_jdk_17_method_119_code_65 rfl ?_
    refine Walk.lcmp (pc' := 67) d_jdk_17_method_119_code_66 ?_
    by_cases hr : (a - ((a / b) * b)) = (0 : Int64)
    · skip
      refine Walk.ifYes (pc' := 106) d_jdk_17_method_119_code_67 (XT.ll_eq_t hr) ?_
      refine Walk.iload (pc' := 108) d_jdk_17_method_119_code_106 rfl ?_
      refine Walk.iload (pc' := 110) d_jdk_17_method_119_code_108 rfl ?_
      refine Walk.icYes (pc' := 124) d_jdk_17_method_119_code_110 (XT.ii_eq_t rfl) ?_
      refine Walk.lload (pc' := 126) d_jdk_17_method_119_code_124 rfl ?_
      refine Walk.iload (pc' := 128) d_jdk_17_method_119_code_126 rfl ?_
      refine Walk.callS (pc' := 131) (Wd := 0) (as := [(.long (a / b)), (.int (1 : Int32))]) (rest := []) (wd60 hw) (wd61 hw) (wd17 hw) (wd62 hw) ((c_vo21 hw (a / b) (D.exact hr ▸ D.ne) X).pay (wd62 hw) (wd17 hw) (by decide) (by decide)) (hlen := lenOf pd8 rfl) (hd := d_jdk_17_method_119_code_128) (hst := rfl) (hW := Nat.le_of_eq rfl) (hsz := rfl) (hc1 := Nat.le_of_ble_eq_true rfl) (hl1 := Nat.le_of_ble_eq_true rfl) (hv := Fw.upN) (kk := fun v313 h317 Ts314 Li315 q316 K318 => ?_)
      obtain ⟨⟨x311, rfl, B312⟩, rfl, rfl⟩ := q316
      show Walk _ _ _ _ _ _ _ _ _ _ _ _ _ _ 1 5 131 _ [(.ref x311)]
      rw [D.exact hr] at *
      exact Walk.aret d_jdk_17_method_119_code_131 rfl rfl rfl ⟨⟨_, rfl, ⟨B312.1, B312.2.1, B312.2.2⟩⟩, rfl, rfl⟩ (fun _ q => q) (Nat.le_of_ble_eq_true rfl) (Nat.le_of_ble_eq_true rfl)
    · skip
      obtain ⟨m, hm, hz⟩ := D.mag
      refine Walk.ifNo (pc' := 70) d_jdk_17_method_119_code_67 (XT.ll_eq_f hr) ?_
      refine Walk.lloadN (pc' := 71) d_jdk_17_method_119_code_70 rfl ?_
      refine Walk.iload (pc' := 73) d_jdk_17_method_119_code_71 rfl ?_
      refine Walk.iload (pc' := 75) d_jdk_17_method_119_code_73 rfl ?_
      refine Walk.lload (pc' := 77) d_jdk_17_method_119_code_75 rfl ?_
      refine Walk.lload (pc' := 79) d_jdk_17_method_119_code_77 rfl ?_
      rcases hz with ⟨hz, hR⟩ | ⟨hz, hR⟩
      · skip
        refine Walk.callS (pc' := 82) (Wd := 0) (as := [(.long b), (.int (4 : Int32)), (.int (-1 : Int32)), (.long (a / b)), (.long (a - ((a / b) * b)))]) (rest := []) (wd115 hw) (wd116 hw) (wd17 hw) (wd117 hw) ((c_ni hw b (a / b) (a - a / b * b) m (-1) 0 X D.lo D.hi hm D.bpos (Or.inl ⟨hz, rfl⟩)).pay (wd117 hw) (wd17 hw) (by decide) (by decide)) (hlen := lenOf pd12 rfl) (hd := d_jdk_17_method_119_code_79) (hst := rfl) (hW := Nat.le_of_eq rfl) (hsz := rfl) (hc1 := Nat.le_of_ble_eq_true rfl) (hl1 := Nat.le_of_ble_eq_true rfl) (hv := Fw.upN) (kk := fun v319 h323 Ts320 Li321 q322 K324 => ?_)
        obtain ⟨rfl, rfl, rfl, rfl⟩ := q322
        show Walk _ _ _ _ _ _ _ _ _ _ _ _ _ _ 0 0 82 _ [(.int (0 : Int32))]
        refine Walk.istore (pc' := 84) (Ls' := #[.val (.long a), .second, .val (.long b), .second, .val (.int (1 : Int32)), .val (.int (4 : Int32)), .val (.int (1 : Int32)), .val (.int (-1 : Int32)), .val (.long (a / b)), .second, .val (.long (a - ((a / b) * b))), .second, .val (.int (0 : Int32))]) d_jdk_17_method_119_code_82 rfl ?_
        refine Walk.iload (pc' := 86) d_jdk_17_method_119_code_84 rfl ?_
        refine Walk.ifYes (pc' := 98) d_jdk_17_method_119_code_86 (XT.i0_eq_t rfl) ?_
        refine Walk.lload (pc' := 100) d_jdk_17_method_119_code_98 rfl ?_
        refine Walk.iload (pc' := 102) d_jdk_17_method_119_code_100 rfl ?_
        rw [show (a / b) = R from hR]
        show Walk _ _ _ _ _ _ _ _ _ _ _ _ _ _ 0 0 102 _ [(.int (1 : Int32)), (.long R)]
        refine Walk.callS (pc' := 105) (Wd := 0) (as := [(.long R), (.int (1 : Int32))]) (rest := []) (wd60 hw) (wd61 hw) (wd17 hw) (wd62 hw) ((c_vo21 hw R D.ne X).pay (wd62 hw) (wd17 hw) (by decide) (by decide)) (hlen := lenOf pd8 rfl) (hd := d_jdk_17_method_119_code_102) (hst := rfl) (hW := Nat.le_of_eq rfl) (hsz := rfl) (hc1 := Nat.le_of_ble_eq_true rfl) (hl1 := Nat.le_of_ble_eq_true rfl) (hv := Fw.upN) (kk := fun v327 h331 Ts328 Li329 q330 K332 => ?_)
        obtain ⟨⟨x325, rfl, B326⟩, rfl, rfl⟩ := q330
        show Walk _ _ _ _ _ _ _ _ _ _ _ _ _ _ 1 5 105 _ [(.ref x325)]
        exact Walk.aret d_jdk_17_method_119_code_105 rfl rfl rfl ⟨⟨_, rfl, ⟨B326.1, B326.2.1, B326.2.2⟩⟩, rfl, rfl⟩ (fun _ q => q) (Nat.le_of_ble_eq_true rfl) (Nat.le_of_ble_eq_true rfl)
      · skip
        obtain hR : a / b + Int32.toInt64 (-1) = R := hR.elim (fun q => q.2) (fun q => absurd ha q.1)
        refine Walk.callS (pc' := 82) (Wd := 0) (as := [(.long b), (.int (4 : Int32)), (.int (-1 : Int32)), (.long (a / b)), (.long (a - ((a / b) * b)))]) (rest := []) (wd115 hw) (wd116 hw) (wd17 hw) (wd117 hw) ((c_ni hw b (a / b) (a - a / b * b) m (-1) 1 X D.lo D.hi hm D.bpos (Or.inr ⟨hz, rfl⟩)).pay (wd117 hw) (wd17 hw) (by decide) (by decide)) (hlen := lenOf pd12 rfl) (hd := d_jdk_17_method_119_code_79) (hst := rfl) (hW := Nat.le_of_eq rfl) (hsz := rfl) (hc1 := Nat.le_of_ble_eq_true rfl) (hl1 := Nat.le_of_ble_eq_true rfl) (hv := Fw.upN) (kk := fun v333 h337 Ts334 Li335 q336 K338 => ?_)
        obtain ⟨rfl, rfl, rfl, rfl⟩ := q336
        show Walk _ _ _ _ _ _ _ _ _ _ _ _ _ _ 0 0 82 _ [(.int (1 : Int32))]
        refine Walk.istore (pc' := 84) (Ls' := #[.val (.long a), .second, .val (.long b), .second, .val (.int (1 : Int32)), .val (.int (4 : Int32)), .val (.int (1 : Int32)), .val (.int (-1 : Int32)), .val (.long (a / b)), .second, .val (.long (a - ((a / b) * b))), .second, .val (.int (1 : Int32))]) d_jdk_17_method_119_code_82 rfl ?_
        refine Walk.iload (pc' := 86) d_jdk_17_method_119_code_84 rfl ?_
        refine Walk.ifNo (pc' := 89) d_jdk_17_method_119_code_86 (XT.i0_eq_f (by decide)) ?_
        refine Walk.lload (pc' := 91) d_jdk_17_method_119_code_89 rfl ?_
        refine Walk.iload (pc' := 93) d_jdk_17_method_119_code_91 rfl ?_
        refine Walk.i2l (pc' := 94) d_jdk_17_method_119_code_93 ?_
        refine Walk.ladd (pc' := 95) d_jdk_17_method_119_code_94 ?_
        refine Walk.goto (pc' := 100) d_jdk_17_method_119_code_95 ?_
        refine Walk.iload (pc' := 102) d_jdk_17_method_119_code_100 rfl ?_
        rw [show ((a / b) + (Int32.toInt64 (-1 : Int32))) = R from hR]
        show Walk _ _ _ _ _ _ _ _ _ _ _ _ _ _ 0 0 102 _ [(.int (1 : Int32)), (.long R)]
        refine Walk.callS (pc' := 105) (Wd := 0) (as := [(.long R), (.int (1 : Int32))]) (rest := []) (wd60 hw) (wd61 hw) (wd17 hw) (wd62 hw) ((c_vo21 hw R D.ne X).pay (wd62 hw) (wd17 hw) (by decide) (by decide)) (hlen := lenOf pd8 rfl) (hd := d_jdk_17_method_119_code_102) (hst := rfl) (hW := Nat.le_of_eq rfl) (hsz := rfl) (hc1 := Nat.le_of_ble_eq_true rfl) (hl1 := Nat.le_of_ble_eq_true rfl) (hv := Fw.upN) (kk := fun v341 h345 Ts342 Li343 q344 K346 => ?_)
        obtain ⟨⟨x339, rfl, B340⟩, rfl, rfl⟩ := q344
        show Walk _ _ _ _ _ _ _ _ _ _ _ _ _ _ 1 5 105 _ [(.ref x339)]
        exact Walk.aret d_jdk_17_method_119_code_105 rfl rfl rfl ⟨⟨_, rfl, ⟨B340.1, B340.2.1, B340.2.2⟩⟩, rfl, rfl⟩ (fun _ q => q) (Nat.le_of_ble_eq_true rfl) (Nat.le_of_ble_eq_true rfl)
  · skip
    refine Walk.ifYes (pc' := 41) d_jdk_17_method_119_code_34 (XT.ll_ge_t ha) ?_
    refine Walk.iconst (pc' := 42) (0 : Int32) d_jdk_17_method_119_code_41 rfl ?_
    refine Walk.lloadN (pc' := 43) d_jdk_17_method_119_code_42 rfl ?_
    refine Walk.lconst (pc' := 44) (0 : Int64) d_jdk_17_method_119_code_43 rfl ?_
    refine Walk.lcmp (pc' := 45) d_jdk_17_method_119_code_44 ?_
    refine Walk.ifYes (pc' := 52) d_jdk_17_method_119_code_45 (XT.ll_ge_t D.bpos) ?_
    refine Walk.iconst (pc' := 53) (0 : Int32) d_jdk_17_method_119_code_52 rfl ?_
    refine Walk.icNo (pc' := 56) d_jdk_17_method_119_code_53 (XT.ii_ne_f (by decide)) ?_
    refine Walk.iconst (pc' := 57) (1 : Int32) d_jdk_17_method_119_code_56 rfl ?_
    refine Walk.goto (pc' := 61) d_jdk_17_method_119_code_57 ?_
    refine Walk.istore (pc' := 63) (Ls' := #[.val (.long a), .second, .val (.long b), .second, .val (.int (1 : Int32)), .val (.int (4 : Int32)), .val (.int (1 : Int32)), .val (.int (1 : Int32)), .val (.long (a / b)), .second, .val (.long (a - ((a / b) * b))), .second, .unset]) d_jdk_17_method_119_code_61 rfl ?_
    refine Walk.lload (pc' := 65) d_jdk_17_method_119_code_63 rfl ?_
    refine Walk.lconst (pc' := 66) (0 : Int64) d_jdk_17_method_119_code_65 rfl ?_
    refine Walk.lcmp (pc' := 67) d_jdk_17_method_119_code_66 ?_
    by_cases hr : (a - ((a / b) * b)) = (0 : Int64)
    · skip
      refine Walk.ifYes (pc' := 106) d_jdk_17_method_119_code_67 (XT.ll_eq_t hr) ?_
      refine Walk.iload (pc' := 108) d_jdk_17_method_119_code_106 rfl ?_
      refine Walk.iload (pc' := 110) d_jdk_17_method_119_code_108 rfl ?_
      refine Walk.icYes (pc' := 124) d_jdk_17_method_119_code_110 (XT.ii_eq_t rfl) ?_
      refine Walk.lload (pc' := 126) d_jdk_17_method_119_code_124 rfl ?_
      refine Walk.iload (pc' := 128) d_jdk_17_method_119_code_126 rfl ?_
      refine Walk.callS (pc' := 131) (Wd := 0) (as := [(.long (a / b)), (.int (1 : Int32))]) (rest := []) (wd60 hw) (wd61 hw) (wd17 hw) (wd62 hw) ((c_vo21 hw (a / b) (D.exact hr ▸ D.ne) X).pay (wd62 hw) (wd17 hw) (by decide) (by decide)) (hlen := lenOf pd8 rfl) (hd := d_jdk_17_method_119_code_128) (hst := rfl) (hW := Nat.le_of_eq rfl) (hsz := rfl) (hc1 := Nat.le_of_ble_eq_true rfl) (hl1 := Nat.le_of_ble_eq_true rfl) (hv := Fw.upN) (kk := fun v349 h353 Ts350 Li351 q352 K354 => ?_)
      obtain ⟨⟨x347, rfl, B348⟩, rfl, rfl⟩ := q352
      show Walk _ _ _ _ _ _ _ _ _ _ _ _ _ _ 1 5 131 _ [(.ref x347)]
      rw [D.exact hr] at *
      exact Walk.aret d_jdk_17_method_119_code_131 rfl rfl rfl ⟨⟨_, rfl, ⟨B348.1, B348.2.1, B348.2.2⟩⟩, rfl, rfl⟩ (fun _ q => q) (Nat.le_of_ble_eq_true rfl) (Nat.le_of_ble_eq_true rfl)
    · skip
      obtain ⟨m, hm, hz⟩ := D.mag
      refine Walk.ifNo (pc' := 70) d_jdk_17_method_119_code_67 (XT.ll_eq_f hr) ?_
      refine Walk.lloadN (pc' := 71) d_jdk_17_method_119_code_70 rfl ?_
      refine Walk.iload (pc' := 73) d_jdk_17_method_119_code_71 rfl ?_
      refine Walk.iload (pc' := 75) d_jdk_17_method_119_code_73 rfl ?_
      refine Walk.lload (pc' := 77) d_jdk_17_method_119_code_75 rfl ?_
      refine Walk.lload (pc' := 79) d_jdk_17_method_119_code_77 rfl ?_
      rcases hz with ⟨hz, hR⟩ | ⟨hz, hR⟩
      · skip
        refine Walk.callS (pc' := 82) (Wd := 0) (as := [(.long b), (.int (4 : Int32)), (.int (1 : Int32)), (.long (a / b)), (.long (a - ((a / b) * b)))]) (rest := []) (wd115 hw) (wd116 hw) (wd17 hw) (wd117 hw) ((c_ni hw b (a / b) (a - a / b * b) m 1 0 X D.lo D.hi hm D.bpos (Or.inl ⟨hz, rfl⟩)).pay (wd117 hw) (wd17 hw) (by decide) (by decide)) (hlen := lenOf pd12 rfl) (hd := d_jdk_17_method_119_code_79) (hst := rfl) (hW := Nat.le_of_eq rfl) (hsz := rfl) (hc1 := Nat.le_of_ble_eq_true rfl) (hl1 := Nat.le_of_ble_eq_true rfl) (hv := Fw.upN) (kk := fun v355 h359 Ts356 Li357 q358 K360 => ?_)
        obtain ⟨rfl, rfl, rfl, rfl⟩ := q358
        show Walk _ _ _ _ _ _ _ _ _ _ _ _ _ _ 0 0 82 _ [(.int (0 : Int32))]
        refine Walk.istore (pc' := 84) (Ls' := #[.val (.long a), .second, .val (.long b), .second, .val (.int (1 : Int32)), .val (.int (4 : Int32)), .val (.int (1 : Int32)), .val (.int (1 : Int32)), .val (.long (a / b)), .second, .val (.long (a - ((a / b) * b))), .second, .val (.int (0 : Int32))]) d_jdk_17_method_119_code_82 rfl ?_
        refine Walk.iload (pc' := 86) d_jdk_17_method_119_code_84 rfl ?_
        refine Walk.ifYes (pc' := 98) d_jdk_17_method_119_code_86 (XT.i0_eq_t rfl) ?_
        refine Walk.lload (pc' := 100) d_jdk_17_method_119_code_98 rfl ?_
        refine Walk.iload (pc' := 102) d_jdk_17_method_119_code_100 rfl ?_
        rw [show (a / b) = R from hR]
        show Walk _ _ _ _ _ _ _ _ _ _ _ _ _ _ 0 0 102 _ [(.int (1 : Int32)), (.long R)]
        refine Walk.callS (pc' := 105) (Wd := 0) (as := [(.long R), (.int (1 : Int32))]) (rest := []) (wd60 hw) (wd61 hw) (wd17 hw) (wd62 hw) ((c_vo21 hw R D.ne X).pay (wd62 hw) (wd17 hw) (by decide) (by decide)) (hlen := lenOf pd8 rfl) (hd := d_jdk_17_method_119_code_102) (hst := rfl) (hW := Nat.le_of_eq rfl) (hsz := rfl) (hc1 := Nat.le_of_ble_eq_true rfl) (hl1 := Nat.le_of_ble_eq_true rfl) (hv := Fw.upN) (kk := fun v363 h367 Ts364 Li365 q366 K368 => ?_)
        obtain ⟨⟨x361, rfl, B362⟩, rfl, rfl⟩ := q366
        show Walk _ _ _ _ _ _ _ _ _ _ _ _ _ _ 1 5 105 _ [(.ref x361)]
        exact Walk.aret d_jdk_17_method_119_code_105 rfl rfl rfl ⟨⟨_, rfl, ⟨B362.1, B362.2.1, B362.2.2⟩⟩, rfl, rfl⟩ (fun _ q => q) (Nat.le_of_ble_eq_true rfl) (Nat.le_of_ble_eq_true rfl)
      · skip
        obtain hR : a / b + Int32.toInt64 1 = R := hR.elim (fun q => absurd q.1 ha) (fun q => q.2)
        refine Walk.callS (pc' := 82) (Wd := 0) (as := [(.long b), (.int (4 : Int32)), (.int (1 : Int32)), (.long (a / b)), (.long (a - ((a / b) * b)))]) (rest := []) (wd115 hw) (wd116 hw) (wd17 hw) (wd117 hw) ((c_ni hw b (a / b) (a - a / b * b) m 1 1 X D.lo D.hi hm D.bpos (Or.inr ⟨hz, rfl⟩)).pay (wd117 hw) (wd17 hw) (by decide) (by decide)) (hlen := lenOf pd12 rfl) (hd := d_jdk_17_method_119_code_79) (hst := rfl) (hW := Nat.le_of_eq rfl) (hsz := rfl) (hc1 := Nat.le_of_ble_eq_true rfl) (hl1 := Nat.le_of_ble_eq_true rfl) (hv := Fw.upN) (kk := fun v369 h373 Ts370 Li371 q372 K374 => ?_)
        obtain ⟨rfl, rfl, rfl, rfl⟩ := q372
        show Walk _ _ _ _ _ _ _ _ _ _ _ _ _ _ 0 0 82 _ [(.int (1 : Int32))]
        refine Walk.istore (pc' := 84) (Ls' := #[.val (.long a), .second, .val (.long b), .second, .val (.int (1 : Int32)), .val (.int (4 : Int32)), .val (.int (1 : Int32)), .val (.int (1 : Int32)), .val (.long (a / b)), .second, .val (.long (a - ((a / b) * b))), .second, .val (.int (1 : Int32))]) d_jdk_17_method_119_code_82 rfl ?_
        refine Walk.iload (pc' := 86) d_jdk_17_method_119_code_84 rfl ?_
        refine Walk.ifNo (pc' := 89) d_jdk_17_method_119_code_86 (XT.i0_eq_f (by decide)) ?_
        refine Walk.lload (pc' := 91) d_jdk_17_method_119_code_89 rfl ?_
        refine Walk.iload (pc' := 93) d_jdk_17_method_119_code_91 rfl ?_
        refine Walk.i2l (pc' := 94) d_jdk_17_method_119_code_93 ?_
        refine Walk.ladd (pc' := 95) d_jdk_17_method_119_code_94 ?_
        refine Walk.goto (pc' := 100) d_jdk_17_method_119_code_95 ?_
        refine Walk.iload (pc' := 102) d_jdk_17_method_119_code_100 rfl ?_
        rw [show ((a / b) + (Int32.toInt64 (1 : Int32))) = R from hR]
        show Walk _ _ _ _ _ _ _ _ _ _ _ _ _ _ 0 0 102 _ [(.int (1 : Int32)), (.long R)]
        refine Walk.callS (pc' := 105) (Wd := 0) (as := [(.long R), (.int (1 : Int32))]) (rest := []) (wd60 hw) (wd61 hw) (wd17 hw) (wd62 hw) ((c_vo21 hw R D.ne X).pay (wd62 hw) (wd17 hw) (by decide) (by decide)) (hlen := lenOf pd8 rfl) (hd := d_jdk_17_method_119_code_102) (hst := rfl) (hW := Nat.le_of_eq rfl) (hsz := rfl) (hc1 := Nat.le_of_ble_eq_true rfl) (hl1 := Nat.le_of_ble_eq_true rfl) (hv := Fw.upN) (kk := fun v377 h381 Ts378 Li379 q380 K382 => ?_)
        obtain ⟨⟨x375, rfl, B376⟩, rfl, rfl⟩ := q380
        show Walk _ _ _ _ _ _ _ _ _ _ _ _ _ _ 1 5 105 _ [(.ref x375)]
        exact Walk.aret d_jdk_17_method_119_code_105 rfl rfl rfl ⟨⟨_, rfl, ⟨B376.1, B376.2.1, B376.2.2⟩⟩, rfl, rfl⟩ (fun _ q => q) (Nat.le_of_ble_eq_true rfl) (Nat.le_of_ble_eq_true rfl)
set_option maxRecDepth 65536 in
set_option maxHeartbeats 40000000 in
theorem c_da2 {Z : State} {a0 : Array Value} (hw : ∀ d ∈ tables_1, d.before a0 Z = true) {h : Heap} {Ts : TsT} {Li : LiT} (a b R : Int64) (D : DR a b R) {one z10 zs tp th hu : Addr} {f g t1 t2 : Nat → Value} (X : Sx Z one z10 zs tp th hu f g t1 t2) :
    Con Z (⟨"java/math/BigDecimal", "divideAndRound", "(JJIII)Ljava/math/BigDecimal;"⟩ : MethodName) jdk_17_method_119_code 13 (some (.object "java/math/BigDecimal")) ({ frames := 5, cells := 1, slots := 5, locals := 69 } : Room) [(.long a), (.long b), (.int (2 : Int32)), (.int (4 : Int32)), (.int (2 : Int32))] h Ts Li (noW) (fun v' h' Ts' Li' => (∃ x, v' = some (.ref x) ∧ Bd Z h' x R 2) ∧ Ts' = Ts ∧ Li' = Li) := by
  refine Con.of (ws := Fw h noW) (Ls := #[.val (.long a), .second, .val (.long b), .second, .val (.int (2 : Int32)), .val (.int (4 : Int32)), .val (.int (2 : Int32)), .unset, .unset, .unset, .unset, .unset, .unset]) (plainFor_of_name pn0) (fun m => by simp [entryFrame, mkF, argsToLocals, cat_i, cat_j, cat_r, cat_n]) (fun E0 => ?_)
  refine Walk.lloadN (pc' := 1) d_jdk_17_method_119_code_0 rfl ?_
  refine Walk.lloadN (pc' := 2) d_jdk_17_method_119_code_1 rfl ?_
  refine Walk.ldiv (pc' := 3) d_jdk_17_method_119_code_2 D.bne ?_
  refine Walk.lstore (pc' := 5) (Ls' := #[.val (.long a), .second, .val (.long b), .second, .val (.int (2 : Int32)), .val (.int (4 : Int32)), .val (.int (2 : Int32)), .unset, .val (.long (a / b)), .second, .unset, .unset, .unset]) d_jdk_17_method_119_code_3 rfl ?_
  refine Walk.iload (pc' := 7) d_jdk_17_method_119_code_5 rfl ?_
  refine Walk.iconst (pc' := 8) (1 : Int32) d_jdk_17_method_119_code_7 rfl ?_
  refine Walk.icYes (pc' := 26) d_jdk_17_method_119_code_8 (XT.ii_ne_t (by decide)) ?_
  refine Walk.lloadN (pc' := 27) d_jdk_17_method_119_code_26 rfl ?_
  refine Walk.lloadN (pc' := 28) d_jdk_17_method_119_code_27 rfl ?_
  refine Walk.lrem (pc' := 29) d_jdk_17_method_119_code_28 D.bne ?_
  refine Walk.lstore (pc' := 31) (Ls' := #[.val (.long a), .second, .val (.long b), .second, .val (.int (2 : Int32)), .val (.int (4 : Int32)), .val (.int (2 : Int32)), .unset, .val (.long (a / b)), .second, .val (.long (a - ((a / b) * b))), .second, .unset]) d_jdk_17_method_119_code_29 rfl ?_
  refine Walk.lloadN (pc' := 32) d_jdk_17_method_119_code_31 rfl ?_
  refine Walk.lconst (pc' := 33) (0 : Int64) d_jdk_17_method_119_code_32 rfl ?_
  refine Walk.lcmp (pc' := 34) d_jdk_17_method_119_code_33 ?_
  by_cases ha : a < (0 : Int64)
  · skip
    refine Walk.ifNo (pc' := 37) d_jdk_17_method_119_code_34 (XT.ll_ge_f ha) ?_
    refine Walk.iconst (pc' := 38) (1 : Int32) d_jdk_17_method_119_code_37 rfl ?_
    refine Walk.goto (pc' := 42) d_jdk_17_method_119_code_38 ?_
    refine Walk.lloadN (pc' := 43) d_jdk_17_method_119_code_42 rfl ?_
    refine Walk.lconst (pc' := 44) (0 : Int64) d_jdk_17_method_119_code_43 rfl ?_
    refine Walk.lcmp (pc' := 45) d_jdk_17_method_119_code_44 ?_
    refine Walk.ifYes (pc' := 52) d_jdk_17_method_119_code_45 (XT.ll_ge_t D.bpos) ?_
    refine Walk.iconst (pc' := 53) (0 : Int32) d_jdk_17_method_119_code_52 rfl ?_
    refine Walk.icYes (pc' := 60) d_jdk_17_method_119_code_53 (XT.ii_ne_t (by decide)) ?_
    refine Walk.iconst (pc' := 61) (-1 : Int32) d_jdk_17_method_119_code_60 rfl ?_
    refine Walk.istore (pc' := 63) (Ls' := #[.val (.long a), .second, .val (.long b), .second, .val (.int (2 : Int32)), .val (.int (4 : Int32)), .val (.int (2 : Int32)), .val (.int (-1 : Int32)), .val (.long (a / b)), .second, .val (.long (a - ((a / b) * b))), .second, .unset]) d_jdk_17_method_119_code_61 rfl ?_
    refine Walk.lload (pc' := 65) d_jdk_17_method_119_code_63 rfl ?_
    refine Walk.lconst (pc' := 66) (0 : Int64) d_jdk_17_method_119_code_65 rfl ?_
    refine Walk.lcmp (pc' := 67) d_jdk_17_method_119_code_66 ?_
    by_cases hr : (a - ((a / b) * b)) = (0 : Int64)
    · skip
      refine Walk.ifYes (pc' := 106) d_jdk_17_method_119_code_67 (XT.ll_eq_t hr) ?_
      refine Walk.iload (pc' := 108) d_jdk_17_method_119_code_106 rfl ?_
      refine Walk.iload (pc' := 110) d_jdk_17_method_119_code_108 rfl ?_
      refine Walk.icYes (pc' := 124) d_jdk_17_method_119_code_110 (XT.ii_eq_t rfl) ?_
      refine Walk.lload (pc' := 126) d_jdk_17_method_119_code_124 rfl ?_
      refine Walk.iload (pc' := 128) d_jdk_17_method_119_code_126 rfl ?_
      refine Walk.callS (pc' := 131) (Wd := 0) (as := [(.long (a / b)), (.int (2 : Int32))]) (rest := []) (wd60 hw) (wd61 hw) (wd17 hw) (wd62 hw) ((c_vo22 hw (a / b) (D.exact hr ▸ D.ne) X).pay (wd62 hw) (wd17 hw) (by decide) (by decide)) (hlen := lenOf pd8 rfl) (hd := d_jdk_17_method_119_code_128) (hst := rfl) (hW := Nat.le_of_eq rfl) (hsz := rfl) (hc1 := Nat.le_of_ble_eq_true rfl) (hl1 := Nat.le_of_ble_eq_true rfl) (hv := Fw.upN) (kk := fun v385 h389 Ts386 Li387 q388 K390 => ?_)
      obtain ⟨⟨x383, rfl, B384⟩, rfl, rfl⟩ := q388
      show Walk _ _ _ _ _ _ _ _ _ _ _ _ _ _ 1 5 131 _ [(.ref x383)]
      rw [D.exact hr] at *
      exact Walk.aret d_jdk_17_method_119_code_131 rfl rfl rfl ⟨⟨_, rfl, ⟨B384.1, B384.2.1, B384.2.2⟩⟩, rfl, rfl⟩ (fun _ q => q) (Nat.le_of_ble_eq_true rfl) (Nat.le_of_ble_eq_true rfl)
    · skip
      obtain ⟨m, hm, hz⟩ := D.mag
      refine Walk.ifNo (pc' := 70) d_jdk_17_method_119_code_67 (XT.ll_eq_f hr) ?_
      refine Walk.lloadN (pc' := 71) d_jdk_17_method_119_code_70 rfl ?_
      refine Walk.iload (pc' := 73) d_jdk_17_method_119_code_71 rfl ?_
      refine Walk.iload (pc' := 75) d_jdk_17_method_119_code_73 rfl ?_
      refine Walk.lload (pc' := 77) d_jdk_17_method_119_code_75 rfl ?_
      refine Walk.lload (pc' := 79) d_jdk_17_method_119_code_77 rfl ?_
      rcases hz with ⟨hz, hR⟩ | ⟨hz, hR⟩
      · skip
        refine Walk.callS (pc' := 82) (Wd := 0) (as := [(.long b), (.int (4 : Int32)), (.int (-1 : Int32)), (.long (a / b)), (.long (a - ((a / b) * b)))]) (rest := []) (wd115 hw) (wd116 hw) (wd17 hw) (wd117 hw) ((c_ni hw b (a / b) (a - a / b * b) m (-1) 0 X D.lo D.hi hm D.bpos (Or.inl ⟨hz, rfl⟩)).pay (wd117 hw) (wd17 hw) (by decide) (by decide)) (hlen := lenOf pd12 rfl) (hd := d_jdk_17_method_119_code_79) (hst := rfl) (hW := Nat.le_of_eq rfl) (hsz := rfl) (hc1 := Nat.le_of_ble_eq_true rfl) (hl1 := Nat.le_of_ble_eq_true rfl) (hv := Fw.upN) (kk := fun v391 h395 Ts392 Li393 q394 K396 => ?_)
        obtain ⟨rfl, rfl, rfl, rfl⟩ := q394
        show Walk _ _ _ _ _ _ _ _ _ _ _ _ _ _ 0 0 82 _ [(.int (0 : Int32))]
        refine Walk.istore (pc' := 84) (Ls' := #[.val (.long a), .second, .val (.long b), .second, .val (.int (2 : Int32)), .val (.int (4 : Int32)), .val (.int (2 : Int32)), .val (.int (-1 : Int32)), .val (.long (a / b)), .second, .val (.long (a - ((a / b) * b))), .second, .val (.int (0 : Int32))]) d_jdk_17_method_119_code_82 rfl ?_
        refine Walk.iload (pc' := 86) d_jdk_17_method_119_code_84 rfl ?_
        refine Walk.ifYes (pc' := 98) d_jdk_17_method_119_code_86 (XT.i0_eq_t rfl) ?_
        refine Walk.lload (pc' := 100) d_jdk_17_method_119_code_98 rfl ?_
        refine Walk.iload (pc' := 102) d_jdk_17_method_119_code_100 rfl ?_
        rw [show (a / b) = R from hR]
        show Walk _ _ _ _ _ _ _ _ _ _ _ _ _ _ 0 0 102 _ [(.int (2 : Int32)), (.long R)]
        refine Walk.callS (pc' := 105) (Wd := 0) (as := [(.long R), (.int (2 : Int32))]) (rest := []) (wd60 hw) (wd61 hw) (wd17 hw) (wd62 hw) ((c_vo22 hw R D.ne X).pay (wd62 hw) (wd17 hw) (by decide) (by decide)) (hlen := lenOf pd8 rfl) (hd := d_jdk_17_method_119_code_102) (hst := rfl) (hW := Nat.le_of_eq rfl) (hsz := rfl) (hc1 := Nat.le_of_ble_eq_true rfl) (hl1 := Nat.le_of_ble_eq_true rfl) (hv := Fw.upN) (kk := fun v399 h403 Ts400 Li401 q402 K404 => ?_)
        obtain ⟨⟨x397, rfl, B398⟩, rfl, rfl⟩ := q402
        show Walk _ _ _ _ _ _ _ _ _ _ _ _ _ _ 1 5 105 _ [(.ref x397)]
        exact Walk.aret d_jdk_17_method_119_code_105 rfl rfl rfl ⟨⟨_, rfl, ⟨B398.1, B398.2.1, B398.2.2⟩⟩, rfl, rfl⟩ (fun _ q => q) (Nat.le_of_ble_eq_true rfl) (Nat.le_of_ble_eq_true rfl)
      · skip
        obtain hR : a / b + Int32.toInt64 (-1) = R := hR.elim (fun q => q.2) (fun q => absurd ha q.1)
        refine Walk.callS (pc' := 82) (Wd := 0) (as := [(.long b), (.int (4 : Int32)), (.int (-1 : Int32)), (.long (a / b)), (.long (a - ((a / b) * b)))]) (rest := []) (wd115 hw) (wd116 hw) (wd17 hw) (wd117 hw) ((c_ni hw b (a / b) (a - a / b * b) m (-1) 1 X D.lo D.hi hm D.bpos (Or.inr ⟨hz, rfl⟩)).pay (wd117 hw) (wd17 hw) (by decide) (by decide)) (hlen := lenOf pd12 rfl) (hd := d_jdk_17_method_119_code_79) (hst := rfl) (hW := Nat.le_of_eq rfl) (hsz := rfl) (hc1 := Nat.le_of_ble_eq_true rfl) (hl1 := Nat.le_of_ble_eq_true rfl) (hv := Fw.upN) (kk := fun v405 h409 Ts406 Li407 q408 K410 => ?_)
        obtain ⟨rfl, rfl, rfl, rfl⟩ := q408
        show Walk _ _ _ _ _ _ _ _ _ _ _ _ _ _ 0 0 82 _ [(.int (1 : Int32))]
        refine Walk.istore (pc' := 84) (Ls' := #[.val (.long a), .second, .val (.long b), .second, .val (.int (2 : Int32)), .val (.int (4 : Int32)), .val (.int (2 : Int32)), .val (.int (-1 : Int32)), .val (.long (a / b)), .second, .val (.long (a - ((a / b) * b))), .second, .val (.int (1 : Int32))]) d_jdk_17_method_119_code_82 rfl ?_
        refine Walk.iload (pc' := 86) d_jdk_17_method_119_code_84 rfl ?_
        refine Walk.ifNo (pc' := 89) d_jdk_17_method_119_code_86 (XT.i0_eq_f (by decide)) ?_
        refine Walk.lload (pc' := 91) d_jdk_17_method_119_code_89 rfl ?_
        refine Walk.iload (pc' := 93) d_jdk_17_method_119_code_91 rfl ?_
        refine Walk.i2l (pc' := 94) d_jdk_17_method_119_code_93 ?_
        refine Walk.ladd (pc' := 95) d_jdk_17_method_119_code_94 ?_
        refine Walk.goto (pc' := 100) d_jdk_17_method_119_code_95 ?_
        refine Walk.iload (pc' := 102) d_jdk_17_method_119_code_100 rfl ?_
        rw [show ((a / b) + (Int32.toInt64 (-1 : Int32))) = R from hR]
        show Walk _ _ _ _ _ _ _ _ _ _ _ _ _ _ 0 0 102 _ [(.int (2 : Int32)), (.long R)]
        refine Walk.callS (pc' := 105) (Wd := 0) (as := [(.long R), (.int (2 : Int32))]) (rest := []) (wd60 hw) (wd61 hw) (wd17 hw) (wd62 hw) ((c_vo22 hw R D.ne X).pay (wd62 hw) (wd17 hw) (by decide) (by decide)) (hlen := lenOf pd8 rfl) (hd := d_jdk_17_method_119_code_102) (hst := rfl) (hW := Nat.le_of_eq rfl) (hsz := rfl) (hc1 := Nat.le_of_ble_eq_true rfl) (hl1 := Nat.le_of_ble_eq_true rfl) (hv := Fw.upN) (kk := fun v413 h417 Ts414 Li415 q416 K418 => ?_)
        obtain ⟨⟨x411, rfl, B412⟩, rfl, rfl⟩ := q416
        show Walk _ _ _ _ _ _ _ _ _ _ _ _ _ _ 1 5 105 _ [(.ref x411)]
        exact Walk.aret d_jdk_17_method_119_code_105 rfl rfl rfl ⟨⟨_, rfl, ⟨B412.1, B412.2.1, B412.2.2⟩⟩, rfl, rfl⟩ (fun _ q => q) (Nat.le_of_ble_eq_true rfl) (Nat.le_of_ble_eq_true rfl)
  · skip
    refine Walk.ifYes (pc' := 41) d_jdk_17_method_119_code_34 (XT.ll_ge_t ha) ?_
    refine Walk.iconst (pc' := 42) (0 : Int32) d_jdk_17_method_119_code_41 rfl ?_
    refine Walk.lloadN (pc' := 43) d_jdk_17_method_119_code_42 rfl ?_
    refine Walk.lconst (pc' := 44) (0 : Int64) d_jdk_17_method_119_code_43 rfl ?_
    refine Walk.lcmp (pc' := 45) d_jdk_17_method_119_code_44 ?_
    refine Walk.ifYes (pc' := 52) d_jdk_17_method_119_code_45 (XT.ll_ge_t D.bpos) ?_
    refine Walk.iconst (pc' := 53) (0 : Int32) d_jdk_17_method_119_code_52 rfl ?_
    refine Walk.icNo (pc' := 56) d_jdk_17_method_119_code_53 (XT.ii_ne_f (by decide)) ?_
    refine Walk.iconst (pc' := 57) (1 : Int32) d_jdk_17_method_119_code_56 rfl ?_
    refine Walk.goto (pc' := 61) d_jdk_17_method_119_code_57 ?_
    refine Walk.istore (pc' := 63) (Ls' := #[.val (.long a), .second, .val (.long b), .second, .val (.int (2 : Int32)), .val (.int (4 : Int32)), .val (.int (2 : Int32)), .val (.int (1 : Int32)), .val (.long (a / b)), .second, .val (.long (a - ((a / b) * b))), .second, .unset]) d_jdk_17_method_119_code_61 rfl ?_
    refine Walk.lload (pc' := 65) d_jdk_17_method_119_code_63 rfl ?_
    refine Walk.lconst (pc' := 66) (0 : Int64) d_jdk_17_method_119_code_65 rfl ?_
    refine Walk.lcmp (pc' := 67) d_jdk_17_method_119_code_66 ?_
    by_cases hr : (a - ((a / b) * b)) = (0 : Int64)
    · skip
      refine Walk.ifYes (pc' := 106) d_jdk_17_method_119_code_67 (XT.ll_eq_t hr) ?_
      refine Walk.iload (pc' := 108) d_jdk_17_method_119_code_106 rfl ?_
      refine Walk.iload (pc' := 110) d_jdk_17_method_119_code_108 rfl ?_
      refine Walk.icYes (pc' := 124) d_jdk_17_method_119_code_110 (XT.ii_eq_t rfl) ?_
      refine Walk.lload (pc' := 126) d_jdk_17_method_119_code_124 rfl ?_
      refine Walk.iload (pc' := 128) d_jdk_17_method_119_code_126 rfl ?_
      refine Walk.callS (pc' := 131) (Wd := 0) (as := [(.long (a / b)), (.int (2 : Int32))]) (rest := []) (wd60 hw) (wd61 hw) (wd17 hw) (wd62 hw) ((c_vo22 hw (a / b) (D.exact hr ▸ D.ne) X).pay (wd62 hw) (wd17 hw) (by decide) (by decide)) (hlen := lenOf pd8 rfl) (hd := d_jdk_17_method_119_code_128) (hst := rfl) (hW := Nat.le_of_eq rfl) (hsz := rfl) (hc1 := Nat.le_of_ble_eq_true rfl) (hl1 := Nat.le_of_ble_eq_true rfl) (hv := Fw.upN) (kk := fun v421 h425 Ts422 Li423 q424 K426 => ?_)
      obtain ⟨⟨x419, rfl, B420⟩, rfl, rfl⟩ := q424
      show Walk _ _ _ _ _ _ _ _ _ _ _ _ _ _ 1 5 131 _ [(.ref x419)]
      rw [D.exact hr] at *
      exact Walk.aret d_jdk_17_method_119_code_131 rfl rfl rfl ⟨⟨_, rfl, ⟨B420.1, B420.2.1, B420.2.2⟩⟩, rfl, rfl⟩ (fun _ q => q) (Nat.le_of_ble_eq_true rfl) (Nat.le_of_ble_eq_true rfl)
    · skip
      obtain ⟨m, hm, hz⟩ := D.mag
      refine Walk.ifNo (pc' := 70) d_jdk_17_method_119_code_67 (XT.ll_eq_f hr) ?_
      refine Walk.lloadN (pc' := 71) d_jdk_17_method_119_code_70 rfl ?_
      refine Walk.iload (pc' := 73) d_jdk_17_method_119_code_71 rfl ?_
      refine Walk.iload (pc' := 75) d_jdk_17_method_119_code_73 rfl ?_
      refine Walk.lload (pc' := 77) d_jdk_17_method_119_code_75 rfl ?_
      refine Walk.lload (pc' := 79) d_jdk_17_method_119_code_77 rfl ?_
      rcases hz with ⟨hz, hR⟩ | ⟨hz, hR⟩
      · skip
        refine Walk.callS (pc' := 82) (Wd := 0) (as := [(.long b), (.int (4 : Int32)), (.int (1 : Int32)), (.long (a / b)), (.long (a - ((a / b) * b)))]) (rest := []) (wd115 hw) (wd116 hw) (wd17 hw) (wd117 hw) ((c_ni hw b (a / b) (a - a / b * b) m 1 0 X D.lo D.hi hm D.bpos (Or.inl ⟨hz, rfl⟩)).pay (wd117 hw) (wd17 hw) (by decide) (by decide)) (hlen := lenOf pd12 rfl) (hd := d_jdk_17_method_119_code_79) (hst := rfl) (hW := Nat.le_of_eq rfl) (hsz := rfl) (hc1 := Nat.le_of_ble_eq_true rfl) (hl1 := Nat.le_of_ble_eq_true rfl) (hv := Fw.upN) (kk := fun v427 h431 Ts428 Li429 q430 K432 => ?_)
        obtain ⟨rfl, rfl, rfl, rfl⟩ := q430
        show Walk _ _ _ _ _ _ _ _ _ _ _ _ _ _ 0 0 82 _ [(.int (0 : Int32))]
        refine Walk.istore (pc' := 84) (Ls' := #[.val (.long a), .second, .val (.long b), .second, .val (.int (2 : Int32)), .val (.int (4 : Int32)), .val (.int (2 : Int32)), .val (.int (1 : Int32)), .val (.long (a / b)), .second, .val (.long (a - ((a / b) * b))), .second, .val (.int (0 : Int32))]) d_jdk_17_method_119_code_82 rfl ?_
        refine Walk.iload (pc' := 86) d_jdk_17_method_119_code_84 rfl ?_
        refine Walk.ifYes (pc' := 98) d_jdk_17_method_119_code_86 (XT.i0_eq_t rfl) ?_
        refine Walk.lload (pc' := 100) d_jdk_17_method_119_code_98 rfl ?_
        refine Walk.iload (pc' := 102) d_jdk_17_method_119_code_100 rfl ?_
        rw [show (a / b) = R from hR]
        show Walk _ _ _ _ _ _ _ _ _ _ _ _ _ _ 0 0 102 _ [(.int (2 : Int32)), (.long R)]
        refine Walk.callS (pc' := 105) (Wd := 0) (as := [(.long R), (.int (2 : Int32))]) (rest := []) (wd60 hw) (wd61 hw) (wd17 hw) (wd62 hw) ((c_vo22 hw R D.ne X).pay (wd62 hw) (wd17 hw) (by decide) (by decide)) (hlen := lenOf pd8 rfl) (hd := d_jdk_17_method_119_code_102) (hst := rfl) (hW := Nat.le_of_eq rfl) (hsz := rfl) (hc1 := Nat.le_of_ble_eq_true rfl) (hl1 := Nat.le_of_ble_eq_true rfl) (hv := Fw.upN) (kk := fun v435 h439 Ts436 Li437 q438 K440 => ?_)
        obtain ⟨⟨x433, rfl, B434⟩, rfl, rfl⟩ := q438
        show Walk _ _ _ _ _ _ _ _ _ _ _ _ _ _ 1 5 105 _ [(.ref x433)]
        exact Walk.aret d_jdk_17_method_119_code_105 rfl rfl rfl ⟨⟨_, rfl, ⟨B434.1, B434.2.1, B434.2.2⟩⟩, rfl, rfl⟩ (fun _ q => q) (Nat.le_of_ble_eq_true rfl) (Nat.le_of_ble_eq_true rfl)
      · skip
        obtain hR : a / b + Int32.toInt64 1 = R := hR.elim (fun q => absurd q.1 ha) (fun q => q.2)
        refine Walk.callS (pc' := 82) (Wd := 0) (as := [(.long b), (.int (4 : Int32)), (.int (1 : Int32)), (.long (a / b)), (.long (a - ((a / b) * b)))]) (rest := []) (wd115 hw) (wd116 hw) (wd17 hw) (wd117 hw) ((c_ni hw b (a / b) (a - a / b * b) m 1 1 X D.lo D.hi hm D.bpos (Or.inr ⟨hz, rfl⟩)).pay (wd117 hw) (wd17 hw) (by decide) (by decide)) (hlen := lenOf pd12 rfl) (hd := d_jdk_17_method_119_code_79) (hst := rfl) (hW := Nat.le_of_eq rfl) (hsz := rfl) (hc1 := Nat.le_of_ble_eq_true rfl) (hl1 := Nat.le_of_ble_eq_true rfl) (hv := Fw.upN) (kk := fun v441 h445 Ts442 Li443 q444 K446 => ?_)
        obtain ⟨rfl, rfl, rfl, rfl⟩ := q444
        show Walk _ _ _ _ _ _ _ _ _ _ _ _ _ _ 0 0 82 _ [(.int (1 : Int32))]
        refine Walk.istore (pc' := 84) (Ls' := #[.val (.long a), .second, .val (.long b), .second, .val (.int (2 : Int32)), .val (.int (4 : Int32)), .val (.int (2 : Int32)), .val (.int (1 : Int32)), .val (.long (a / b)), .second, .val (.long (a - ((a / b) * b))), .second, .val (.int (1 : Int32))]) d_jdk_17_method_119_code_82 rfl ?_
        refine Walk.iload (pc' := 86) d_jdk_17_method_119_code_84 rfl ?_
        refine Walk.ifNo (pc' := 89) d_jdk_17_method_119_code_86 (XT.i0_eq_f (by decide)) ?_
        refine Walk.lload (pc' := 91) d_jdk_17_method_119_code_89 rfl ?_
        refine Walk.iload (pc' := 93) d_jdk_17_method_119_code_91 rfl ?_
        refine Walk.i2l (pc' := 94) d_jdk_17_method_119_code_93 ?_
        refine Walk.ladd (pc' := 95) d_jdk_17_method_119_code_94 ?_
        refine Walk.goto (pc' := 100) d_jdk_17_method_119_code_95 ?_
        refine Walk.iload (pc' := 102) d_jdk_17_method_119_code_100 rfl ?_
        rw [show ((a / b) + (Int32.toInt64 (1 : Int32))) = R from hR]
        show Walk _ _ _ _ _ _ _ _ _ _ _ _ _ _ 0 0 102 _ [(.int (2 : Int32)), (.long R)]
        refine Walk.callS (pc' := 105) (Wd := 0) (as := [(.long R), (.int (2 : Int32))]) (rest := []) (wd60 hw) (wd61 hw) (wd17 hw) (wd62 hw) ((c_vo22 hw R D.ne X).pay (wd62 hw) (wd17 hw) (by decide) (by decide)) (hlen := lenOf pd8 rfl) (hd := d_jdk_17_method_119_code_102) (hst := rfl) (hW := Nat.le_of_eq rfl) (hsz := rfl) (hc1 := Nat.le_of_ble_eq_true rfl) (hl1 := Nat.le_of_ble_eq_true rfl) (hv := Fw.upN) (kk := fun v449 h453 Ts450 Li451 q452 K454 => ?_)
        obtain ⟨⟨x447, rfl, B448⟩, rfl, rfl⟩ := q452
        show Walk _ _ _ _ _ _ _ _ _ _ _ _ _ _ 1 5 105 _ [(.ref x447)]
        exact Walk.aret d_jdk_17_method_119_code_105 rfl rfl rfl ⟨⟨_, rfl, ⟨B448.1, B448.2.1, B448.2.2⟩⟩, rfl, rfl⟩ (fun _ q => q) (Nat.le_of_ble_eq_true rfl) (Nat.le_of_ble_eq_true rfl)
set_option maxRecDepth 65536 in
set_option maxHeartbeats 40000000 in
theorem c_d60 {Z : State} {a0 : Array Value} (hw : ∀ d ∈ tables_1, d.before a0 Z = true) {h : Heap} {Ts : TsT} {Li : LiT} (a b R : Int64) (D : DR a b R) {one z10 zs tp th hu : Addr} {f g t1 t2 : Nat → Value} (X : Sx Z one z10 zs tp th hu f g t1 t2) :
    Con Z (⟨"java/math/BigDecimal", "divide", "(JIJIII)Ljava/math/BigDecimal;"⟩ : MethodName) jdk_17_method_166_code 13 (some (.object "java/math/BigDecimal")) ({ frames := 6, cells := 1, slots := 5, locals := 93 } : Room) [(.long a), (.int (0 : Int32)), (.long b), (.int (0 : Int32)), (.int (0 : Int32)), (.int (4 : Int32))] h Ts Li (noW) (fun v' h' Ts' Li' => (∃ x, v' = some (.ref x) ∧ Bd Z h' x R 0) ∧ Ts' = Ts ∧ Li' = Li) := by
  refine Con.of (ws := Fw h noW) (Ls := #[.val (.long a), .second, .val (.int (0 : Int32)), .val (.long b), .second, .val (.int (0 : Int32)), .val (.int (0 : Int32)), .val (.int (4 : Int32)), .unset, .unset, .unset, .unset, .unset]) (plainFor_of_name pn0) (fun m => by simp [entryFrame, mkF, argsToLocals, cat_i, cat_j, cat_r, cat_n]) (fun E0 => ?_)
  refine Walk.lloadN (pc' := 1) d_jdk_17_method_166_code_0 rfl ?_
  refine Walk.iload (pc' := 3) d_jdk_17_method_166_code_1 rfl ?_
  refine Walk.i2l (pc' := 4) d_jdk_17_method_166_code_3 ?_
  refine Walk.iload (pc' := 6) d_jdk_17_method_166_code_4 rfl ?_
  refine Walk.i2l (pc' := 7) d_jdk_17_method_166_code_6 ?_
  refine Walk.ladd (pc' := 8) d_jdk_17_method_166_code_7 ?_
  refine Walk.callS (pc' := 11) (Wd := 0) (as := [(.long a), (.long ((Int32.toInt64 (0 : Int32)) + (Int32.toInt64 (0 : Int32))))]) (rest := []) (wd81 hw) (wd82 hw) (wd17 hw) (wd83 hw) ((c_ck2 hw a ((Int32.toInt64 (0 : Int32)) + (Int32.toInt64 (0 : Int32))) 0 (by decide) (by decide)).pay (wd83 hw) (wd17 hw) (by decide) (by decide)) (hlen := lenOf pd0 rfl) (hd := d_jdk_17_method_166_code_8) (hst := rfl) (hW := Nat.le_of_eq rfl) (hsz := rfl) (hc1 := Nat.le_of_ble_eq_true rfl) (hl1 := Nat.le_of_ble_eq_true rfl) (hv := Fw.upN) (kk := fun v455 h459 Ts456 Li457 q458 K460 => ?_)
  obtain ⟨rfl, rfl, rfl, rfl⟩ := q458
  show Walk _ _ _ _ _ _ _ _ _ _ _ _ _ _ 0 0 11 _ [(.int (0 : Int32))]
  refine Walk.iloadN (pc' := 12) d_jdk_17_method_166_code_11 rfl ?_
  refine Walk.icYes (pc' := 118) d_jdk_17_method_166_code_12 (XT.ii_le_t (by decide)) ?_
  refine Walk.lloadN (pc' := 119) d_jdk_17_method_166_code_118 rfl ?_
  refine Walk.iloadN (pc' := 120) d_jdk_17_method_166_code_119 rfl ?_
  refine Walk.i2l (pc' := 121) d_jdk_17_method_166_code_120 ?_
  refine Walk.iload (pc' := 123) d_jdk_17_method_166_code_121 rfl ?_
  refine Walk.i2l (pc' := 124) d_jdk_17_method_166_code_123 ?_
  refine Walk.lsub (pc' := 125) d_jdk_17_method_166_code_124 ?_
  refine Walk.callS (pc' := 128) (Wd := 0) (as := [(.long b), (.long ((Int32.toInt64 (0 : Int32)) - (Int32.toInt64 (0 : Int32))))]) (rest := []) (wd81 hw) (wd82 hw) (wd17 hw) (wd83 hw) ((c_ck2 hw b ((Int32.toInt64 (0 : Int32)) - (Int32.toInt64 (0 : Int32))) 0 (by decide) (by decide)).pay (wd83 hw) (wd17 hw) (by decide) (by decide)) (hlen := lenOf pd0 rfl) (hd := d_jdk_17_method_166_code_125) (hst := rfl) (hW := Nat.le_of_eq rfl) (hsz := rfl) (hc1 := Nat.le_of_ble_eq_true rfl) (hl1 := Nat.le_of_ble_eq_true rfl) (hv := Fw.upN) (kk := fun v461 h465 Ts462 Li463 q464 K466 => ?_)
  obtain ⟨rfl, rfl, rfl, rfl⟩ := q464
  show Walk _ _ _ _ _ _ _ _ _ _ _ _ _ _ 0 0 128 _ [(.int (0 : Int32))]
  refine Walk.istore (pc' := 130) (Ls' := #[.val (.long a), .second, .val (.int (0 : Int32)), .val (.long b), .second, .val (.int (0 : Int32)), .val (.int (0 : Int32)), .val (.int (4 : Int32)), .val (.int (0 : Int32)), .unset, .unset, .unset, .unset]) d_jdk_17_method_166_code_128 rfl ?_
  refine Walk.iload (pc' := 132) d_jdk_17_method_166_code_130 rfl ?_
  refine Walk.iload (pc' := 134) d_jdk_17_method_166_code_132 rfl ?_
  refine Walk.isub (pc' := 135) d_jdk_17_method_166_code_134 ?_
  refine Walk.istore (pc' := 137) (Ls' := #[.val (.long a), .second, .val (.int (0 : Int32)), .val (.long b), .second, .val (.int (0 : Int32)), .val (.int (0 : Int32)), .val (.int (4 : Int32)), .val (.int (0 : Int32)), .val (.int ((0 : Int32) - (0 : Int32))), .unset, .unset, .unset]) d_jdk_17_method_166_code_135 rfl ?_
  refine Walk.iload (pc' := 139) d_jdk_17_method_166_code_137 rfl ?_
  refine Walk.getS (pc' := 142) (wd84 hw) Via.refl X.s4 d_jdk_17_method_166_code_139 ?_
  refine Walk.alen (pc' := 143) (z := (19 : Int32)) (X.a4.kq (Kq.of_ext E0) (fun _ q => q)) d_jdk_17_method_166_code_142 rfl ?_
  refine Walk.icNo (pc' := 146) d_jdk_17_method_166_code_143 (XT.ii_ge_f (by decide)) ?_
  refine Walk.lloadN (pc' := 147) d_jdk_17_method_166_code_146 rfl ?_
  refine Walk.lstore (pc' := 149) (Ls' := #[.val (.long a), .second, .val (.int (0 : Int32)), .val (.long b), .second, .val (.int (0 : Int32)), .val (.int (0 : Int32)), .val (.int (4 : Int32)), .val (.int (0 : Int32)), .val (.int ((0 : Int32) - (0 : Int32))), .val (.long b), .second, .unset]) d_jdk_17_method_166_code_147 rfl ?_
  refine Walk.lload (pc' := 151) d_jdk_17_method_166_code_149 rfl ?_
  refine Walk.iload (pc' := 153) d_jdk_17_method_166_code_151 rfl ?_
  rw [show ((0 : Int32) - (0 : Int32)) = (0 : Int32) from by decide]
  refine Walk.callS (pc' := 156) (Wd := 0) (as := [(.long b), (.int (0 : Int32))]) (rest := []) (wd85 hw) (wd86 hw) (wd17 hw) (wd87 hw) ((c_lm0 hw b).pay (wd87 hw) (wd17 hw) (by decide) (by decide)) (hlen := lenOf pd13 rfl) (hd := d_jdk_17_method_166_code_153) (hst := rfl) (hW := Nat.le_of_eq rfl) (hsz := rfl) (hc1 := Nat.le_of_ble_eq_true rfl) (hl1 := Nat.le_of_ble_eq_true rfl) (hv := Fw.upN) (kk := fun v467 h471 Ts468 Li469 q470 K472 => ?_)
  obtain ⟨rfl, rfl, rfl, rfl⟩ := q470
  show Walk _ _ _ _ _ _ _ _ _ _ _ _ _ _ 0 0 156 _ [(.long b)]
  refine Walk.dup2L (pc' := 157) d_jdk_17_method_166_code_156 ?_
  refine Walk.lstore (pc' := 159) (Ls' := #[.val (.long a), .second, .val (.int (0 : Int32)), .val (.long b), .second, .val (.int (0 : Int32)), .val (.int (0 : Int32)), .val (.int (4 : Int32)), .val (.int (0 : Int32)), .val (.int ((0 : Int32) - (0 : Int32))), .val (.long b), .second, .unset]) d_jdk_17_method_166_code_157 rfl ?_
  refine Walk.ldcJ (pc' := 162) (wd52 hw) d_jdk_17_method_166_code_159 ?_
  refine Walk.lcmp (pc' := 163) d_jdk_17_method_166_code_162 ?_
  refine Walk.ifNo (pc' := 166) d_jdk_17_method_166_code_163 (XT.ll_eq_f D.bmin) ?_
  refine Walk.lloadN (pc' := 167) d_jdk_17_method_166_code_166 rfl ?_
  refine Walk.lload (pc' := 169) d_jdk_17_method_166_code_167 rfl ?_
  refine Walk.iload (pc' := 171) d_jdk_17_method_166_code_169 rfl ?_
  refine Walk.iload (pc' := 173) d_jdk_17_method_166_code_171 rfl ?_
  refine Walk.iload (pc' := 175) d_jdk_17_method_166_code_173 rfl ?_
  refine Walk.callS (pc' := 178) (Wd := 0) (as := [(.long a), (.long b), (.int (0 : Int32)), (.int (4 : Int32)), (.int (0 : Int32))]) (rest := []) (wd89 hw) (wd90 hw) (wd17 hw) (wd91 hw) ((c_da0 hw a b R D X).pay (wd91 hw) (wd17 hw) (by decide) (by decide)) (hlen := lenOf pd14 rfl) (hd := d_jdk_17_method_166_code_175) (hst := rfl) (hW := Nat.le_of_eq rfl) (hsz := rfl) (hc1 := Nat.le_of_ble_eq_true rfl) (hl1 := Nat.le_of_ble_eq_true rfl) (hv := Fw.upN) (kk := fun v475 h479 Ts476 Li477 q478 K480 => ?_)
  obtain ⟨⟨x473, rfl, B474⟩, rfl, rfl⟩ := q478
  show Walk _ _ _ _ _ _ _ _ _ _ _ _ _ _ 1 5 178 _ [(.ref x473)]
  exact Walk.aret d_jdk_17_method_166_code_178 rfl rfl rfl ⟨⟨_, rfl, ⟨B474.1, B474.2.1, B474.2.2⟩⟩, rfl, rfl⟩ (fun _ q => q) (Nat.le_of_ble_eq_true rfl) (Nat.le_of_ble_eq_true rfl)
set_option maxRecDepth 65536 in
set_option maxHeartbeats 40000000 in
theorem c_d30 {Z : State} {a0 : Array Value} (hw : ∀ d ∈ tables_1, d.before a0 Z = true) {h : Heap} {Ts : TsT} {Li : LiT} (x y : Addr) (a b R : Int64) (D : DR a b R) (na : ¬ a = (-9223372036854775808 : Int64)) (Bx : Bd Z h x a 0) (By : Bd Z h y b 0) {one z10 zs tp th hu : Addr} {f g t1 t2 : Nat → Value} (X : Sx Z one z10 zs tp th hu f g t1 t2) :
    Con Z (⟨"java/math/BigDecimal", "divide", "(Ljava/math/BigDecimal;II)Ljava/math/BigDecimal;"⟩ : MethodName) jdk_17_method_33_code 4 (some (.object "java/math/BigDecimal")) ({ frames := 7, cells := 1, slots := 5, locals := 117 } : Room) [(.ref x), (.ref y), (.int (0 : Int32)), (.int (4 : Int32))] h Ts Li (noW) (fun v' h' Ts' Li' => (∃ x, v' = some (.ref x) ∧ Bd Z h' x R 0) ∧ Ts' = Ts ∧ Li' = Li) := by
  refine Con.of (ws := Fw h noW) (Ls := #[.val (.ref x), .val (.ref y), .val (.int (0 : Int32)), .val (.int (4 : Int32))]) (plainFor_of_name pn0) (fun m => by first | rfl | (simp [entryFrame, mkF, argsToLocals, Value.category]; done)) (fun E0 => ?_)
  refine Walk.iloadN (pc' := 1) d_jdk_17_method_33_code_0 rfl ?_
  refine Walk.ifNo (pc' := 4) d_jdk_17_method_33_code_1 (XT.i0_lt_f (by decide)) ?_
  refine Walk.iloadN (pc' := 5) d_jdk_17_method_33_code_4 rfl ?_
  refine Walk.bipush (pc' := 7) (7 : Int32) d_jdk_17_method_33_code_5 rfl ?_
  refine Walk.icYes (pc' := 21) d_jdk_17_method_33_code_7 (XT.ii_le_t (by decide)) ?_
  refine Walk.aloadN (pc' := 22) d_jdk_17_method_33_code_21 rfl rfl ?_
  refine Walk.getF (pc' := 25) (host := "") (Or.inl (wd50 hw)) Via.refl Bx.2.2 d_jdk_17_method_33_code_22 ?_
  refine Walk.ldcJ (pc' := 28) (wd52 hw) d_jdk_17_method_33_code_25 ?_
  refine Walk.lcmp (pc' := 29) d_jdk_17_method_33_code_28 ?_
  refine Walk.ifNo (pc' := 32) d_jdk_17_method_33_code_29 (XT.ll_eq_f na) ?_
  refine Walk.aloadN (pc' := 33) d_jdk_17_method_33_code_32 rfl rfl ?_
  refine Walk.getF (pc' := 36) (host := "") (Or.inl (wd50 hw)) Via.refl By.2.2 d_jdk_17_method_33_code_33 ?_
  refine Walk.ldcJ (pc' := 39) (wd52 hw) d_jdk_17_method_33_code_36 ?_
  refine Walk.lcmp (pc' := 40) d_jdk_17_method_33_code_39 ?_
  refine Walk.ifNo (pc' := 43) d_jdk_17_method_33_code_40 (XT.ll_eq_f D.bmin) ?_
  refine Walk.aloadN (pc' := 44) d_jdk_17_method_33_code_43 rfl rfl ?_
  refine Walk.getF (pc' := 47) (host := "") (Or.inl (wd50 hw)) Via.refl Bx.2.2 d_jdk_17_method_33_code_44 ?_
  refine Walk.aloadN (pc' := 48) d_jdk_17_method_33_code_47 rfl rfl ?_
  refine Walk.getF (pc' := 51) (host := "") (Or.inl (wd43 hw)) Via.refl Bx.2.1 d_jdk_17_method_33_code_48 ?_
  refine Walk.aloadN (pc' := 52) d_jdk_17_method_33_code_51 rfl rfl ?_
  refine Walk.getF (pc' := 55) (host := "") (Or.inl (wd50 hw)) Via.refl By.2.2 d_jdk_17_method_33_code_52 ?_
  refine Walk.aloadN (pc' := 56) d_jdk_17_method_33_code_55 rfl rfl ?_
  refine Walk.getF (pc' := 59) (host := "") (Or.inl (wd43 hw)) Via.refl By.2.1 d_jdk_17_method_33_code_56 ?_
  refine Walk.iloadN (pc' := 60) d_jdk_17_method_33_code_59 rfl ?_
  refine Walk.iloadN (pc' := 61) d_jdk_17_method_33_code_60 rfl ?_
  refine Walk.callS (pc' := 64) (Wd := 0) (as := [(.long a), (.int (0 : Int32)), (.long b), (.int (0 : Int32)), (.int (0 : Int32)), (.int (4 : Int32))]) (rest := []) (wd78 hw) (wd79 hw) (wd17 hw) (wd80 hw) ((c_d60 hw a b R D X).pay (wd80 hw) (wd17 hw) (by decide) (by decide)) (hlen := lenOf pd15 rfl) (hd := d_jdk_17_method_33_code_61) (hst := rfl) (hW := Nat.le_of_eq rfl) (hsz := rfl) (hc1 := Nat.le_of_ble_eq_true rfl) (hl1 := Nat.le_of_ble_eq_true rfl) (hv := Fw.upN) (kk := fun v483 h487 Ts484 Li485 q486 K488 => ?_)
  obtain ⟨⟨x481, rfl, B482⟩, rfl, rfl⟩ := q486
  show Walk _ _ _ _ _ _ _ _ _ _ _ _ _ _ 1 5 64 _ [(.ref x481)]
  exact Walk.aret d_jdk_17_method_33_code_64 rfl rfl rfl ⟨⟨_, rfl, ⟨B482.1, B482.2.1, B482.2.2⟩⟩, rfl, rfl⟩ (fun _ q => q) (Nat.le_of_ble_eq_true rfl) (Nat.le_of_ble_eq_true rfl)
set_option maxRecDepth 65536 in
set_option maxHeartbeats 40000000 in
theorem c_dr0 {Z : State} {a0 : Array Value} (hw : ∀ d ∈ tables_1, d.before a0 Z = true) {h : Heap} {Ts : TsT} {Li : LiT} (x y : Addr) (a b R : Int64) (D : DR a b R) (na : ¬ a = (-9223372036854775808 : Int64)) (Bx : Bd Z h x a 0) (By : Bd Z h y b 0) {one z10 zs tp th hu : Addr} {f g t1 t2 : Nat → Value} (X : Sx Z one z10 zs tp th hu f g t1 t2) :
    Con Z (⟨"java/math/BigDecimal", "divide", "(Ljava/math/BigDecimal;ILjava/math/RoundingMode;)Ljava/math/BigDecimal;"⟩ : MethodName) jdk_17_method_34_code 4 (some (.object "java/math/BigDecimal")) ({ frames := 8, cells := 1, slots := 5, locals := 132 } : Room) [(.ref x), (.ref y), (.int (0 : Int32)), (.ref hu)] h Ts Li (noW) (fun v' h' Ts' Li' => (∃ x, v' = some (.ref x) ∧ Bd Z h' x R 0) ∧ Ts' = Ts ∧ Li' = Li) := by
  refine Con.of (ws := Fw h noW) (Ls := #[.val (.ref x), .val (.ref y), .val (.int (0 : Int32)), .val (.ref hu)]) (plainFor_of_name pn0) (fun m => by first | rfl | (simp [entryFrame, mkF, argsToLocals, Value.category]; done)) (fun E0 => ?_)
  refine Walk.aloadN (pc' := 1) d_jdk_17_method_34_code_0 rfl rfl ?_
  refine Walk.aloadN (pc' := 2) d_jdk_17_method_34_code_1 rfl rfl ?_
  refine Walk.iloadN (pc' := 3) d_jdk_17_method_34_code_2 rfl ?_
  refine Walk.aloadN (pc' := 4) d_jdk_17_method_34_code_3 rfl rfl ?_
  refine Walk.getF (pc' := 7) (host := "") (Or.inl (wd71 hw)) Via.refl (X.f7.kq (Kq.of_ext E0) (fun q => q)) d_jdk_17_method_34_code_4 ?_
  refine Walk.callV (pc' := 10) (a := x) (Wd := 0) (as := [(.ref y), (.int (0 : Int32)), (.int (4 : Int32))]) (rest := []) (wd73 hw) (wd74 hw) (wd76 hw) (wd76 hw) (wd75 hw) Bx.1 ((c_d30 hw x y a b R D na Bx By X).pay (wd77 hw) (wd17 hw) (by decide) (by decide)) (hlen := lenOf pd16 rfl) (hd := d_jdk_17_method_34_code_7) (hst := rfl) (hW := Nat.le_of_eq rfl) (hsz := rfl) (hc1 := Nat.le_of_ble_eq_true rfl) (hl1 := Nat.le_of_ble_eq_true rfl) (hv := Fw.upN) (kk := fun v491 h495 Ts492 Li493 q494 K496 => ?_)
  obtain ⟨⟨x489, rfl, B490⟩, rfl, rfl⟩ := q494
  show Walk _ _ _ _ _ _ _ _ _ _ _ _ _ _ 1 5 10 _ [(.ref x489)]
  exact Walk.aret d_jdk_17_method_34_code_10 rfl rfl rfl ⟨⟨_, rfl, ⟨B490.1, B490.2.1, B490.2.2⟩⟩, rfl, rfl⟩ (fun _ q => q) (Nat.le_of_ble_eq_true rfl) (Nat.le_of_ble_eq_true rfl)
set_option maxRecDepth 65536 in
set_option maxHeartbeats 40000000 in
theorem c_d61 {Z : State} {a0 : Array Value} (hw : ∀ d ∈ tables_1, d.before a0 Z = true) {h : Heap} {Ts : TsT} {Li : LiT} (a b R : Int64) (D : DR (a * 10) b R) (hT : ∀ m, ((a < 0 ∧ m = -a) ∨ (¬ a < 0 ∧ m = a)) → ¬ (922337203685477580 : Int64) < m) {one z10 zs tp th hu : Addr} {f g t1 t2 : Nat → Value} (X : Sx Z one z10 zs tp th hu f g t1 t2) :
    Con Z (⟨"java/math/BigDecimal", "divide", "(JIJIII)Ljava/math/BigDecimal;"⟩ : MethodName) jdk_17_method_166_code 13 (some (.object "java/math/BigDecimal")) ({ frames := 6, cells := 1, slots := 5, locals := 93 } : Room) [(.long a), (.int (0 : Int32)), (.long b), (.int (0 : Int32)), (.int (1 : Int32)), (.int (4 : Int32))] h Ts Li (noW) (fun v' h' Ts' Li' => (∃ x, v' = some (.ref x) ∧ Bd Z h' x R 1) ∧ Ts' = Ts ∧ Li' = Li) := by
  refine Con.of (ws := Fw h noW) (Ls := #[.val (.long a), .second, .val (.int (0 : Int32)), .val (.long b), .second, .val (.int (0 : Int32)), .val (.int (1 : Int32)), .val (.int (4 : Int32)), .unset, .unset, .unset, .unset, .unset]) (plainFor_of_name pn0) (fun m => by simp [entryFrame, mkF, argsToLocals, cat_i, cat_j, cat_r, cat_n]) (fun E0 => ?_)
  refine Walk.lloadN (pc' := 1) d_jdk_17_method_166_code_0 rfl ?_
  refine Walk.iload (pc' := 3) d_jdk_17_method_166_code_1 rfl ?_
  refine Walk.i2l (pc' := 4) d_jdk_17_method_166_code_3 ?_
  refine Walk.iload (pc' := 6) d_jdk_17_method_166_code_4 rfl ?_
  refine Walk.i2l (pc' := 7) d_jdk_17_method_166_code_6 ?_
  refine Walk.ladd (pc' := 8) d_jdk_17_method_166_code_7 ?_
  refine Walk.callS (pc' := 11) (Wd := 0) (as := [(.long a), (.long ((Int32.toInt64 (1 : Int32)) + (Int32.toInt64 (0 : Int32))))]) (rest := []) (wd81 hw) (wd82 hw) (wd17 hw) (wd83 hw) ((c_ck2 hw a ((Int32.toInt64 (1 : Int32)) + (Int32.toInt64 (0 : Int32))) 1 (by decide) (by decide)).pay (wd83 hw) (wd17 hw) (by decide) (by decide)) (hlen := lenOf pd0 rfl) (hd := d_jdk_17_method_166_code_8) (hst := rfl) (hW := Nat.le_of_eq rfl) (hsz := rfl) (hc1 := Nat.le_of_ble_eq_true rfl) (hl1 := Nat.le_of_ble_eq_true rfl) (hv := Fw.upN) (kk := fun v497 h501 Ts498 Li499 q500 K502 => ?_)
  obtain ⟨rfl, rfl, rfl, rfl⟩ := q500
  show Walk _ _ _ _ _ _ _ _ _ _ _ _ _ _ 0 0 11 _ [(.int (1 : Int32))]
  refine Walk.iloadN (pc' := 12) d_jdk_17_method_166_code_11 rfl ?_
  refine Walk.icNo (pc' := 15) d_jdk_17_method_166_code_12 (XT.ii_le_f (by decide)) ?_
  refine Walk.iload (pc' := 17) d_jdk_17_method_166_code_15 rfl ?_
  refine Walk.iload (pc' := 19) d_jdk_17_method_166_code_17 rfl ?_
  refine Walk.iadd (pc' := 20) d_jdk_17_method_166_code_19 ?_
  refine Walk.istore (pc' := 22) (Ls' := #[.val (.long a), .second, .val (.int (0 : Int32)), .val (.long b), .second, .val (.int (0 : Int32)), .val (.int (1 : Int32)), .val (.int (4 : Int32)), .val (.int ((1 : Int32) + (0 : Int32))), .unset, .unset, .unset, .unset]) d_jdk_17_method_166_code_20 rfl ?_
  refine Walk.iload (pc' := 24) d_jdk_17_method_166_code_22 rfl ?_
  refine Walk.iloadN (pc' := 25) d_jdk_17_method_166_code_24 rfl ?_
  refine Walk.isub (pc' := 26) d_jdk_17_method_166_code_25 ?_
  refine Walk.istore (pc' := 28) (Ls' := #[.val (.long a), .second, .val (.int (0 : Int32)), .val (.long b), .second, .val (.int (0 : Int32)), .val (.int (1 : Int32)), .val (.int (4 : Int32)), .val (.int ((1 : Int32) + (0 : Int32))), .val (.int (((1 : Int32) + (0 : Int32)) - (0 : Int32))), .unset, .unset, .unset]) d_jdk_17_method_166_code_26 rfl ?_
  refine Walk.iload (pc' := 30) d_jdk_17_method_166_code_28 rfl ?_
  refine Walk.getS (pc' := 33) (wd84 hw) Via.refl X.s4 d_jdk_17_method_166_code_30 ?_
  refine Walk.alen (pc' := 34) (z := (19 : Int32)) (X.a4.kq (Kq.of_ext E0) (fun _ q => q)) d_jdk_17_method_166_code_33 rfl ?_
  refine Walk.icNo (pc' := 37) d_jdk_17_method_166_code_34 (XT.ii_ge_f (by decide)) ?_
  refine Walk.lloadN (pc' := 38) d_jdk_17_method_166_code_37 rfl ?_
  refine Walk.lstore (pc' := 40) (Ls' := #[.val (.long a), .second, .val (.int (0 : Int32)), .val (.long b), .second, .val (.int (0 : Int32)), .val (.int (1 : Int32)), .val (.int (4 : Int32)), .val (.int ((1 : Int32) + (0 : Int32))), .val (.int (((1 : Int32) + (0 : Int32)) - (0 : Int32))), .val (.long a), .second, .unset]) d_jdk_17_method_166_code_38 rfl ?_
  refine Walk.lload (pc' := 42) d_jdk_17_method_166_code_40 rfl ?_
  refine Walk.iload (pc' := 44) d_jdk_17_method_166_code_42 rfl ?_
  rw [show (((1 : Int32) + (0 : Int32)) - (0 : Int32)) = (1 : Int32) from by decide]
  refine Walk.callS (pc' := 47) (Wd := 0) (as := [(.long a), (.int (1 : Int32))]) (rest := []) (wd85 hw) (wd86 hw) (wd17 hw) (wd87 hw) ((c_lm1 hw a (a * 10) rfl hT X).pay (wd87 hw) (wd17 hw) (by decide) (by decide)) (hlen := lenOf pd13 rfl) (hd := d_jdk_17_method_166_code_44) (hst := rfl) (hW := Nat.le_of_eq rfl) (hsz := rfl) (hc1 := Nat.le_of_ble_eq_true rfl) (hl1 := Nat.le_of_ble_eq_true rfl) (hv := Fw.upN) (kk := fun v503 h507 Ts504 Li505 q506 K508 => ?_)
  obtain ⟨rfl, rfl, rfl, rfl⟩ := q506
  show Walk _ _ _ _ _ _ _ _ _ _ _ _ _ _ 0 0 47 _ [(.long (a * 10))]
  refine Walk.dup2L (pc' := 48) d_jdk_17_method_166_code_47 ?_
  refine Walk.lstore (pc' := 50) (Ls' := #[.val (.long a), .second, .val (.int (0 : Int32)), .val (.long b), .second, .val (.int (0 : Int32)), .val (.int (1 : Int32)), .val (.int (4 : Int32)), .val (.int ((1 : Int32) + (0 : Int32))), .val (.int (((1 : Int32) + (0 : Int32)) - (0 : Int32))), .val (.long (a * 10)), .second, .unset]) d_jdk_17_method_166_code_48 rfl ?_
  refine Walk.ldcJ (pc' := 53) (wd52 hw) d_jdk_17_method_166_code_50 ?_
  refine Walk.lcmp (pc' := 54) d_jdk_17_method_166_code_53 ?_
  refine Walk.ifNo (pc' := 57) d_jdk_17_method_166_code_54 (XT.ll_eq_f D.ane) ?_
  refine Walk.lload (pc' := 59) d_jdk_17_method_166_code_57 rfl ?_
  refine Walk.lloadN (pc' := 60) d_jdk_17_method_166_code_59 rfl ?_
  refine Walk.iload (pc' := 62) d_jdk_17_method_166_code_60 rfl ?_
  refine Walk.iload (pc' := 64) d_jdk_17_method_166_code_62 rfl ?_
  refine Walk.iload (pc' := 66) d_jdk_17_method_166_code_64 rfl ?_
  refine Walk.callS (pc' := 69) (Wd := 0) (as := [(.long (a * 10)), (.long b), (.int (1 : Int32)), (.int (4 : Int32)), (.int (1 : Int32))]) (rest := []) (wd89 hw) (wd90 hw) (wd17 hw) (wd91 hw) ((c_da1 hw (a * 10) b R D X).pay (wd91 hw) (wd17 hw) (by decide) (by decide)) (hlen := lenOf pd14 rfl) (hd := d_jdk_17_method_166_code_66) (hst := rfl) (hW := Nat.le_of_eq rfl) (hsz := rfl) (hc1 := Nat.le_of_ble_eq_true rfl) (hl1 := Nat.le_of_ble_eq_true rfl) (hv := Fw.upN) (kk := fun v511 h515 Ts512 Li513 q514 K516 => ?_)
  obtain ⟨⟨x509, rfl, B510⟩, rfl, rfl⟩ := q514
  show Walk _ _ _ _ _ _ _ _ _ _ _ _ _ _ 1 5 69 _ [(.ref x509)]
  exact Walk.aret d_jdk_17_method_166_code_69 rfl rfl rfl ⟨⟨_, rfl, ⟨B510.1, B510.2.1, B510.2.2⟩⟩, rfl, rfl⟩ (fun _ q => q) (Nat.le_of_ble_eq_true rfl) (Nat.le_of_ble_eq_true rfl)
set_option maxRecDepth 65536 in
set_option maxHeartbeats 40000000 in
theorem c_d31 {Z : State} {a0 : Array Value} (hw : ∀ d ∈ tables_1, d.before a0 Z = true) {h : Heap} {Ts : TsT} {Li : LiT} (x y : Addr) (a b R : Int64) (D : DR (a * 10) b R) (hT : ∀ m, ((a < 0 ∧ m = -a) ∨ (¬ a < 0 ∧ m = a)) → ¬ (922337203685477580 : Int64) < m) (na : ¬ a = (-9223372036854775808 : Int64)) (Bx : Bd Z h x a 0) (By : Bd Z h y b 0) {one z10 zs tp th hu : Addr} {f g t1 t2 : Nat → Value} (X : Sx Z one z10 zs tp th hu f g t1 t2) :
    Con Z (⟨"java/math/BigDecimal", "divide", "(Ljava/math/BigDecimal;II)Ljava/math/BigDecimal;"⟩ : MethodName) jdk_17_method_33_code 4 (some (.object "java/math/BigDecimal")) ({ frames := 7, cells := 1, slots := 5, locals := 117 } : Room) [(.ref x), (.ref y), (.int (1 : Int32)), (.int (4 : Int32))] h Ts Li (noW) (fun v' h' Ts' Li' => (∃ x, v' = some (.ref x) ∧ Bd Z h' x R 1) ∧ Ts' = Ts ∧ Li' = Li) := by
  refine Con.of (ws := Fw h noW) (Ls := #[.val (.ref x), .val (.ref y), .val (.int (1 : Int32)), .val (.int (4 : Int32))]) (plainFor_of_name pn0) (fun m => by first | rfl | (simp [entryFrame, mkF, argsToLocals, Value.category]; done)) (fun E0 => ?_)
  refine Walk.iloadN (pc' := 1) d_jdk_17_method_33_code_0 rfl ?_
  refine Walk.ifNo (pc' := 4) d_jdk_17_method_33_code_1 (XT.i0_lt_f (by decide)) ?_
  refine Walk.iloadN (pc' := 5) d_jdk_17_method_33_code_4 rfl ?_
  refine Walk.bipush (pc' := 7) (7 : Int32) d_jdk_17_method_33_code_5 rfl ?_
  refine Walk.icYes (pc' := 21) d_jdk_17_method_33_code_7 (XT.ii_le_t (by decide)) ?_
  refine Walk.aloadN (pc' := 22) d_jdk_17_method_33_code_21 rfl rfl ?_
  refine Walk.getF (pc' := 25) (host := "") (Or.inl (wd50 hw)) Via.refl Bx.2.2 d_jdk_17_method_33_code_22 ?_
  refine Walk.ldcJ (pc' := 28) (wd52 hw) d_jdk_17_method_33_code_25 ?_
  refine Walk.lcmp (pc' := 29) d_jdk_17_method_33_code_28 ?_
  refine Walk.ifNo (pc' := 32) d_jdk_17_method_33_code_29 (XT.ll_eq_f na) ?_
  refine Walk.aloadN (pc' := 33) d_jdk_17_method_33_code_32 rfl rfl ?_
  refine Walk.getF (pc' := 36) (host := "") (Or.inl (wd50 hw)) Via.refl By.2.2 d_jdk_17_method_33_code_33 ?_
  refine Walk.ldcJ (pc' := 39) (wd52 hw) d_jdk_17_method_33_code_36 ?_
  refine Walk.lcmp (pc' := 40) d_jdk_17_method_33_code_39 ?_
  refine Walk.ifNo (pc' := 43) d_jdk_17_method_33_code_40 (XT.ll_eq_f D.bmin) ?_
  refine Walk.aloadN (pc' := 44) d_jdk_17_method_33_code_43 rfl rfl ?_
  refine Walk.getF (pc' := 47) (host := "") (Or.inl (wd50 hw)) Via.refl Bx.2.2 d_jdk_17_method_33_code_44 ?_
  refine Walk.aloadN (pc' := 48) d_jdk_17_method_33_code_47 rfl rfl ?_
  refine Walk.getF (pc' := 51) (host := "") (Or.inl (wd43 hw)) Via.refl Bx.2.1 d_jdk_17_method_33_code_48 ?_
  refine Walk.aloadN (pc' := 52) d_jdk_17_method_33_code_51 rfl rfl ?_
  refine Walk.getF (pc' := 55) (host := "") (Or.inl (wd50 hw)) Via.refl By.2.2 d_jdk_17_method_33_code_52 ?_
  refine Walk.aloadN (pc' := 56) d_jdk_17_method_33_code_55 rfl rfl ?_
  refine Walk.getF (pc' := 59) (host := "") (Or.inl (wd43 hw)) Via.refl By.2.1 d_jdk_17_method_33_code_56 ?_
  refine Walk.iloadN (pc' := 60) d_jdk_17_method_33_code_59 rfl ?_
  refine Walk.iloadN (pc' := 61) d_jdk_17_method_33_code_60 rfl ?_
  refine Walk.callS (pc' := 64) (Wd := 0) (as := [(.long a), (.int (0 : Int32)), (.long b), (.int (0 : Int32)), (.int (1 : Int32)), (.int (4 : Int32))]) (rest := []) (wd78 hw) (wd79 hw) (wd17 hw) (wd80 hw) ((c_d61 hw a b R D hT X).pay (wd80 hw) (wd17 hw) (by decide) (by decide)) (hlen := lenOf pd15 rfl) (hd := d_jdk_17_method_33_code_61) (hst := rfl) (hW := Nat.le_of_eq rfl) (hsz := rfl) (hc1 := Nat.le_of_ble_eq_true rfl) (hl1 := Nat.le_of_ble_eq_true rfl) (hv := Fw.upN) (kk := fun v519 h523 Ts520 Li521 q522 K524 => ?_)
  obtain ⟨⟨x517, rfl, B518⟩, rfl, rfl⟩ := q522
  show Walk _ _ _ _ _ _ _ _ _ _ _ _ _ _ 1 5 64 _ [(.ref x517)]
  exact Walk.aret d_jdk_17_method_33_code_64 rfl rfl rfl ⟨⟨_, rfl, ⟨B518.1, B518.2.1, B518.2.2⟩⟩, rfl, rfl⟩ (fun _ q => q) (Nat.le_of_ble_eq_true rfl) (Nat.le_of_ble_eq_true rfl)
set_option maxRecDepth 65536 in
set_option maxHeartbeats 40000000 in
theorem c_dr1 {Z : State} {a0 : Array Value} (hw : ∀ d ∈ tables_1, d.before a0 Z = true) {h : Heap} {Ts : TsT} {Li : LiT} (x y : Addr) (a b R : Int64) (D : DR (a * 10) b R) (hT : ∀ m, ((a < 0 ∧ m = -a) ∨ (¬ a < 0 ∧ m = a)) → ¬ (922337203685477580 : Int64) < m) (na : ¬ a = (-9223372036854775808 : Int64)) (Bx : Bd Z h x a 0) (By : Bd Z h y b 0) {one z10 zs tp th hu : Addr} {f g t1 t2 : Nat → Value} (X : Sx Z one z10 zs tp th hu f g t1 t2) :
    Con Z (⟨"java/math/BigDecimal", "divide", "(Ljava/math/BigDecimal;ILjava/math/RoundingMode;)Ljava/math/BigDecimal;"⟩ : MethodName) jdk_17_method_34_code 4 (some (.object "java/math/BigDecimal")) ({ frames := 8, cells := 1, slots := 5, locals := 132 } : Room) [(.ref x), (.ref y), (.int (1 : Int32)), (.ref hu)] h Ts Li (noW) (fun v' h' Ts' Li' => (∃ x, v' = some (.ref x) ∧ Bd Z h' x R 1) ∧ Ts' = Ts ∧ Li' = Li) := by
  refine Con.of (ws := Fw h noW) (Ls := #[.val (.ref x), .val (.ref y), .val (.int (1 : Int32)), .val (.ref hu)]) (plainFor_of_name pn0) (fun m => by first | rfl | (simp [entryFrame, mkF, argsToLocals, Value.category]; done)) (fun E0 => ?_)
  refine Walk.aloadN (pc' := 1) d_jdk_17_method_34_code_0 rfl rfl ?_
  refine Walk.aloadN (pc' := 2) d_jdk_17_method_34_code_1 rfl rfl ?_
  refine Walk.iloadN (pc' := 3) d_jdk_17_method_34_code_2 rfl ?_
  refine Walk.aloadN (pc' := 4) d_jdk_17_method_34_code_3 rfl rfl ?_
  refine Walk.getF (pc' := 7) (host := "") (Or.inl (wd71 hw)) Via.refl (X.f7.kq (Kq.of_ext E0) (fun q => q)) d_jdk_17_method_34_code_4 ?_
  refine Walk.callV (pc' := 10) (a := x) (Wd := 0) (as := [(.ref y), (.int (1 : Int32)), (.int (4 : Int32))]) (rest := []) (wd73 hw) (wd74 hw) (wd76 hw) (wd76 hw) (wd75 hw) Bx.1 ((c_d31 hw x y a b R D hT na Bx By X).pay (wd77 hw) (wd17 hw) (by decide) (by decide)) (hlen := lenOf pd16 rfl) (hd := d_jdk_17_method_34_code_7) (hst := rfl) (hW := Nat.le_of_eq rfl) (hsz := rfl) (hc1 := Nat.le_of_ble_eq_true rfl) (hl1 := Nat.le_of_ble_eq_true rfl) (hv := Fw.upN) (kk := fun v527 h531 Ts528 Li529 q530 K532 => ?_)
  obtain ⟨⟨x525, rfl, B526⟩, rfl, rfl⟩ := q530
  show Walk _ _ _ _ _ _ _ _ _ _ _ _ _ _ 1 5 10 _ [(.ref x525)]
  exact Walk.aret d_jdk_17_method_34_code_10 rfl rfl rfl ⟨⟨_, rfl, ⟨B526.1, B526.2.1, B526.2.2⟩⟩, rfl, rfl⟩ (fun _ q => q) (Nat.le_of_ble_eq_true rfl) (Nat.le_of_ble_eq_true rfl)
set_option maxRecDepth 65536 in
set_option maxHeartbeats 40000000 in
theorem c_d62 {Z : State} {a0 : Array Value} (hw : ∀ d ∈ tables_1, d.before a0 Z = true) {h : Heap} {Ts : TsT} {Li : LiT} (a b R : Int64) (D : DR (a * 100) b R) (hT : ∀ m, ((a < 0 ∧ m = -a) ∨ (¬ a < 0 ∧ m = a)) → ¬ (92233720368547758 : Int64) < m) {one z10 zs tp th hu : Addr} {f g t1 t2 : Nat → Value} (X : Sx Z one z10 zs tp th hu f g t1 t2) :
    Con Z (⟨"java/math/BigDecimal", "divide", "(JIJIII)Ljava/math/BigDecimal;"⟩ : MethodName) jdk_17_method_166_code 13 (some (.object "java/math/BigDecimal")) ({ frames := 6, cells := 1, slots := 5, locals := 93 } : Room) [(.long a), (.int (0 : Int32)), (.long b), (.int (0 : Int32)), (.int (2 : Int32)), (.int (4 : Int32))] h Ts Li (noW) (fun v' h' Ts' Li' => (∃ x, v' = some (.ref x) ∧ Bd Z h' x R 2) ∧ Ts' = Ts ∧ Li' = Li) := by
  refine Con.of (ws := Fw h noW) (Ls := #[.val (.long a), .second, .val (.int (0 : Int32)), .val (.long b), .second, .val (.int (0 : Int32)), .val (.int (2 : Int32)), .val (.int (4 : Int32)), .unset, .unset, .unset, .unset, .unset]) (plainFor_of_name pn0) (fun m => by simp [entryFrame, mkF, argsToLocals, cat_i, cat_j, cat_r, cat_n]) (fun E0 => ?_)
  refine Walk.lloadN (pc' := 1) d_jdk_17_method_166_code_0 rfl ?_
  refine Walk.iload (pc' := 3) d_jdk_17_method_166_code_1 rfl ?_
  refine Walk.i2l (pc' := 4) d_jdk_17_method_166_code_3 ?_
  refine Walk.iload (pc' := 6) d_jdk_17_method_166_code_4 rfl ?_
  refine Walk.i2l (pc' := 7) d_jdk_17_method_166_code_6 ?_
  refine Walk.ladd (pc' := 8) d_jdk_17_method_166_code_7 ?_
  refine Walk.callS (pc' := 11) (Wd := 0) (as := [(.long a), (.long ((Int32.toInt64 (2 : Int32)) + (Int32.toInt64 (0 : Int32))))]) (rest := []) (wd81 hw) (wd82 hw) (wd17 hw) (wd83 hw) ((c_ck2 hw a ((Int32.toInt64 (2 : Int32)) + (Int32.toInt64 (0 : Int32))) 2 (by decide) (by decide)).pay (wd83 hw) (wd17 hw) (by decide) (by decide)) (hlen := lenOf pd0 rfl) (hd := d_jdk_17_method_166_code_8) (hst := rfl) (hW := Nat.le_of_eq rfl) (hsz := rfl) (hc1 := Nat.le_of_ble_eq_true rfl) (hl1 := Nat.le_of_ble_eq_true rfl) (hv := Fw.upN) (kk := fun v533 h537 Ts534 Li535 q536 K538 => ?_)
  obtain ⟨rfl, rfl, rfl, rfl⟩ := q536
  show Walk _ _ _ _ _ _ _ _ _ _ _ _ _ _ 0 0 11 _ [(.int (2 : Int32))]
  refine Walk.iloadN (pc' := 12) d_jdk_17_method_166_code_11 rfl ?_
  refine Walk.icNo (pc' := 15) d_jdk_17_method_166_code_12 (XT.ii_le_f (by decide)) ?_
  refine Walk.iload (pc' := 17) d_jdk_17_method_166_code_15 rfl ?_
  refine Walk.iload (pc' := 19) d_jdk_17_method_166_code_17 rfl ?_
  refine Walk.iadd (pc' := 20) d_jdk_17_method_166_code_19 ?_
  refine Walk.istore (pc' := 22) (Ls' := #[.val (.long a), .second, .val (.int (0 : Int32)), .val (.long b), .second, .val (.int (0 : Int32)), .val (.int (2 : Int32)), .val (.int (4 : Int32)), .val (.int ((2 : Int32) + (0 : Int32))), .unset, .unset, .unset, .unset]) d_jdk_17_method_166_code_20 rfl ?_
  refine Walk.iload (pc' := 24) d_jdk_17_method_166_code_22 rfl ?_
  refine Walk.iloadN (pc' := 25) d_jdk_17_method_166_code_24 rfl ?_
  refine Walk.isub (pc' := 26) d_jdk_17_method_166_code_25 ?_
  refine Walk.istore (pc' := 28) (Ls' := #[.val (.long a), .second, .val (.int (0 : Int32)), .val (.long b), .second, .val (.int (0 : Int32)), .val (.int (2 : Int32)), .val (.int (4 : Int32)), .val (.int ((2 : Int32) + (0 : Int32))), .val (.int (((2 : Int32) + (0 : Int32)) - (0 : Int32))), .unset, .unset, .unset]) d_jdk_17_method_166_code_26 rfl ?_
  refine Walk.iload (pc' := 30) d_jdk_17_method_166_code_28 rfl ?_
  refine Walk.getS (pc' := 33) (wd84 hw) Via.refl X.s4 d_jdk_17_method_166_code_30 ?_
  refine Walk.alen (pc' := 34) (z := (19 : Int32)) (X.a4.kq (Kq.of_ext E0) (fun _ q => q)) d_jdk_17_method_166_code_33 rfl ?_
  refine Walk.icNo (pc' := 37) d_jdk_17_method_166_code_34 (XT.ii_ge_f (by decide)) ?_
  refine Walk.lloadN (pc' := 38) d_jdk_17_method_166_code_37 rfl ?_
  refine Walk.lstore (pc' := 40) (Ls' := #[.val (.long a), .second, .val (.int (0 : Int32)), .val (.long b), .second, .val (.int (0 : Int32)), .val (.int (2 : Int32)), .val (.int (4 : Int32)), .val (.int ((2 : Int32) + (0 : Int32))), .val (.int (((2 : Int32) + (0 : Int32)) - (0 : Int32))), .val (.long a), .second, .unset]) d_jdk_17_method_166_code_38 rfl ?_
  refine Walk.lload (pc' := 42) d_jdk_17_method_166_code_40 rfl ?_
  refine Walk.iload (pc' := 44) d_jdk_17_method_166_code_42 rfl ?_
  rw [show (((2 : Int32) + (0 : Int32)) - (0 : Int32)) = (2 : Int32) from by decide]
  refine Walk.callS (pc' := 47) (Wd := 0) (as := [(.long a), (.int (2 : Int32))]) (rest := []) (wd85 hw) (wd86 hw) (wd17 hw) (wd87 hw) ((c_lm2 hw a (a * 100) rfl hT X).pay (wd87 hw) (wd17 hw) (by decide) (by decide)) (hlen := lenOf pd13 rfl) (hd := d_jdk_17_method_166_code_44) (hst := rfl) (hW := Nat.le_of_eq rfl) (hsz := rfl) (hc1 := Nat.le_of_ble_eq_true rfl) (hl1 := Nat.le_of_ble_eq_true rfl) (hv := Fw.upN) (kk := fun v539 h543 Ts540 Li541 q542 K544 => ?_)
  obtain ⟨rfl, rfl, rfl, rfl⟩ := q542
  show Walk _ _ _ _ _ _ _ _ _ _ _ _ _ _ 0 0 47 _ [(.long (a * 100))]
  refine Walk.dup2L (pc' := 48) d_jdk_17_method_166_code_47 ?_
  refine Walk.lstore (pc' := 50) (Ls' := #[.val (.long a), .second, .val (.int (0 : Int32)), .val (.long b), .second, .val (.int (0 : Int32)), .val (.int (2 : Int32)), .val (.int (4 : Int32)), .val (.int ((2 : Int32) + (0 : Int32))), .val (.int (((2 : Int32) + (0 : Int32)) - (0 : Int32))), .val (.long (a * 100)), .second, .unset]) d_jdk_17_method_166_code_48 rfl ?_
  refine Walk.ldcJ (pc' := 53) (wd52 hw) d_jdk_17_method_166_code_50 ?_
  refine Walk.lcmp (pc' := 54) d_jdk_17_method_166_code_53 ?_
  refine Walk.ifNo (pc' := 57) d_jdk_17_method_166_code_54 (XT.ll_eq_f D.ane) ?_
  refine Walk.lload (pc' := 59) d_jdk_17_method_166_code_57 rfl ?_
  refine Walk.lloadN (pc' := 60) d_jdk_17_method_166_code_59 rfl ?_
  refine Walk.iload (pc' := 62) d_jdk_17_method_166_code_60 rfl ?_
  refine Walk.iload (pc' := 64) d_jdk_17_method_166_code_62 rfl ?_
  refine Walk.iload (pc' := 66) d_jdk_17_method_166_code_64 rfl ?_
  refine Walk.callS (pc' := 69) (Wd := 0) (as := [(.long (a * 100)), (.long b), (.int (2 : Int32)), (.int (4 : Int32)), (.int (2 : Int32))]) (rest := []) (wd89 hw) (wd90 hw) (wd17 hw) (wd91 hw) ((c_da2 hw (a * 100) b R D X).pay (wd91 hw) (wd17 hw) (by decide) (by decide)) (hlen := lenOf pd14 rfl) (hd := d_jdk_17_method_166_code_66) (hst := rfl) (hW := Nat.le_of_eq rfl) (hsz := rfl) (hc1 := Nat.le_of_ble_eq_true rfl) (hl1 := Nat.le_of_ble_eq_true rfl) (hv := Fw.upN) (kk := fun v547 h551 Ts548 Li549 q550 K552 => ?_)
  obtain ⟨⟨x545, rfl, B546⟩, rfl, rfl⟩ := q550
  show Walk _ _ _ _ _ _ _ _ _ _ _ _ _ _ 1 5 69 _ [(.ref x545)]
  exact Walk.aret d_jdk_17_method_166_code_69 rfl rfl rfl ⟨⟨_, rfl, ⟨B546.1, B546.2.1, B546.2.2⟩⟩, rfl, rfl⟩ (fun _ q => q) (Nat.le_of_ble_eq_true rfl) (Nat.le_of_ble_eq_true rfl)
set_option maxRecDepth 65536 in
set_option maxHeartbeats 40000000 in
theorem c_d32 {Z : State} {a0 : Array Value} (hw : ∀ d ∈ tables_1, d.before a0 Z = true) {h : Heap} {Ts : TsT} {Li : LiT} (x y : Addr) (a b R : Int64) (D : DR (a * 100) b R) (hT : ∀ m, ((a < 0 ∧ m = -a) ∨ (¬ a < 0 ∧ m = a)) → ¬ (92233720368547758 : Int64) < m) (na : ¬ a = (-9223372036854775808 : Int64)) (Bx : Bd Z h x a 0) (By : Bd Z h y b 0) {one z10 zs tp th hu : Addr} {f g t1 t2 : Nat → Value} (X : Sx Z one z10 zs tp th hu f g t1 t2) :
    Con Z (⟨"java/math/BigDecimal", "divide", "(Ljava/math/BigDecimal;II)Ljava/math/BigDecimal;"⟩ : MethodName) jdk_17_method_33_code 4 (some (.object "java/math/BigDecimal")) ({ frames := 7, cells := 1, slots := 5, locals := 117 } : Room) [(.ref x), (.ref y), (.int (2 : Int32)), (.int (4 : Int32))] h Ts Li (noW) (fun v' h' Ts' Li' => (∃ x, v' = some (.ref x) ∧ Bd Z h' x R 2) ∧ Ts' = Ts ∧ Li' = Li) := by
  refine Con.of (ws := Fw h noW) (Ls := #[.val (.ref x), .val (.ref y), .val (.int (2 : Int32)), .val (.int (4 : Int32))]) (plainFor_of_name pn0) (fun m => by first | rfl | (simp [entryFrame, mkF, argsToLocals, Value.category]; done)) (fun E0 => ?_)
  refine Walk.iloadN (pc' := 1) d_jdk_17_method_33_code_0 rfl ?_
  refine Walk.ifNo (pc' := 4) d_jdk_17_method_33_code_1 (XT.i0_lt_f (by decide)) ?_
  refine Walk.iloadN (pc' := 5) d_jdk_17_method_33_code_4 rfl ?_
  refine Walk.bipush (pc' := 7) (7 : Int32) d_jdk_17_method_33_code_5 rfl ?_
  refine Walk.icYes (pc' := 21) d_jdk_17_method_33_code_7 (XT.ii_le_t (by decide)) ?_
  refine Walk.aloadN (pc' := 22) d_jdk_17_method_33_code_21 rfl rfl ?_
  refine Walk.getF (pc' := 25) (host := "") (Or.inl (wd50 hw)) Via.refl Bx.2.2 d_jdk_17_method_33_code_22 ?_
  refine Walk.ldcJ (pc' := 28) (wd52 hw) d_jdk_17_method_33_code_25 ?_
  refine Walk.lcmp (pc' := 29) d_jdk_17_method_33_code_28 ?_
  refine Walk.ifNo (pc' := 32) d_jdk_17_method_33_code_29 (XT.ll_eq_f na) ?_
  refine Walk.aloadN (pc' := 33) d_jdk_17_method_33_code_32 rfl rfl ?_
  refine Walk.getF (pc' := 36) (host := "") (Or.inl (wd50 hw)) Via.refl By.2.2 d_jdk_17_method_33_code_33 ?_
  refine Walk.ldcJ (pc' := 39) (wd52 hw) d_jdk_17_method_33_code_36 ?_
  refine Walk.lcmp (pc' := 40) d_jdk_17_method_33_code_39 ?_
  refine Walk.ifNo (pc' := 43) d_jdk_17_method_33_code_40 (XT.ll_eq_f D.bmin) ?_
  refine Walk.aloadN (pc' := 44) d_jdk_17_method_33_code_43 rfl rfl ?_
  refine Walk.getF (pc' := 47) (host := "") (Or.inl (wd50 hw)) Via.refl Bx.2.2 d_jdk_17_method_33_code_44 ?_
  refine Walk.aloadN (pc' := 48) d_jdk_17_method_33_code_47 rfl rfl ?_
  refine Walk.getF (pc' := 51) (host := "") (Or.inl (wd43 hw)) Via.refl Bx.2.1 d_jdk_17_method_33_code_48 ?_
  refine Walk.aloadN (pc' := 52) d_jdk_17_method_33_code_51 rfl rfl ?_
  refine Walk.getF (pc' := 55) (host := "") (Or.inl (wd50 hw)) Via.refl By.2.2 d_jdk_17_method_33_code_52 ?_
  refine Walk.aloadN (pc' := 56) d_jdk_17_method_33_code_55 rfl rfl ?_
  refine Walk.getF (pc' := 59) (host := "") (Or.inl (wd43 hw)) Via.refl By.2.1 d_jdk_17_method_33_code_56 ?_
  refine Walk.iloadN (pc' := 60) d_jdk_17_method_33_code_59 rfl ?_
  refine Walk.iloadN (pc' := 61) d_jdk_17_method_33_code_60 rfl ?_
  refine Walk.callS (pc' := 64) (Wd := 0) (as := [(.long a), (.int (0 : Int32)), (.long b), (.int (0 : Int32)), (.int (2 : Int32)), (.int (4 : Int32))]) (rest := []) (wd78 hw) (wd79 hw) (wd17 hw) (wd80 hw) ((c_d62 hw a b R D hT X).pay (wd80 hw) (wd17 hw) (by decide) (by decide)) (hlen := lenOf pd15 rfl) (hd := d_jdk_17_method_33_code_61) (hst := rfl) (hW := Nat.le_of_eq rfl) (hsz := rfl) (hc1 := Nat.le_of_ble_eq_true rfl) (hl1 := Nat.le_of_ble_eq_true rfl) (hv := Fw.upN) (kk := fun v555 h559 Ts556 Li557 q558 K560 => ?_)
  obtain ⟨⟨x553, rfl, B554⟩, rfl, rfl⟩ := q558
  show Walk _ _ _ _ _ _ _ _ _ _ _ _ _ _ 1 5 64 _ [(.ref x553)]
  exact Walk.aret d_jdk_17_method_33_code_64 rfl rfl rfl ⟨⟨_, rfl, ⟨B554.1, B554.2.1, B554.2.2⟩⟩, rfl, rfl⟩ (fun _ q => q) (Nat.le_of_ble_eq_true rfl) (Nat.le_of_ble_eq_true rfl)
set_option maxRecDepth 65536 in
set_option maxHeartbeats 40000000 in
theorem c_dr2 {Z : State} {a0 : Array Value} (hw : ∀ d ∈ tables_1, d.before a0 Z = true) {h : Heap} {Ts : TsT} {Li : LiT} (x y : Addr) (a b R : Int64) (D : DR (a * 100) b R) (hT : ∀ m, ((a < 0 ∧ m = -a) ∨ (¬ a < 0 ∧ m = a)) → ¬ (92233720368547758 : Int64) < m) (na : ¬ a = (-9223372036854775808 : Int64)) (Bx : Bd Z h x a 0) (By : Bd Z h y b 0) {one z10 zs tp th hu : Addr} {f g t1 t2 : Nat → Value} (X : Sx Z one z10 zs tp th hu f g t1 t2) :
    Con Z (⟨"java/math/BigDecimal", "divide", "(Ljava/math/BigDecimal;ILjava/math/RoundingMode;)Ljava/math/BigDecimal;"⟩ : MethodName) jdk_17_method_34_code 4 (some (.object "java/math/BigDecimal")) ({ frames := 8, cells := 1, slots := 5, locals := 132 } : Room) [(.ref x), (.ref y), (.int (2 : Int32)), (.ref hu)] h Ts Li (noW) (fun v' h' Ts' Li' => (∃ x, v' = some (.ref x) ∧ Bd Z h' x R 2) ∧ Ts' = Ts ∧ Li' = Li) := by
  refine Con.of (ws := Fw h noW) (Ls := #[.val (.ref x), .val (.ref y), .val (.int (2 : Int32)), .val (.ref hu)]) (plainFor_of_name pn0) (fun m => by first | rfl | (simp [entryFrame, mkF, argsToLocals, Value.category]; done)) (fun E0 => ?_)
  refine Walk.aloadN (pc' := 1) d_jdk_17_method_34_code_0 rfl rfl ?_
  refine Walk.aloadN (pc' := 2) d_jdk_17_method_34_code_1 rfl rfl ?_
  refine Walk.iloadN (pc' := 3) d_jdk_17_method_34_code_2 rfl ?_
  refine Walk.aloadN (pc' := 4) d_jdk_17_method_34_code_3 rfl rfl ?_
  refine Walk.getF (pc' := 7) (host := "") (Or.inl (wd71 hw)) Via.refl (X.f7.kq (Kq.of_ext E0) (fun q => q)) d_jdk_17_method_34_code_4 ?_
  refine Walk.callV (pc' := 10) (a := x) (Wd := 0) (as := [(.ref y), (.int (2 : Int32)), (.int (4 : Int32))]) (rest := []) (wd73 hw) (wd74 hw) (wd76 hw) (wd76 hw) (wd75 hw) Bx.1 ((c_d32 hw x y a b R D hT na Bx By X).pay (wd77 hw) (wd17 hw) (by decide) (by decide)) (hlen := lenOf pd16 rfl) (hd := d_jdk_17_method_34_code_7) (hst := rfl) (hW := Nat.le_of_eq rfl) (hsz := rfl) (hc1 := Nat.le_of_ble_eq_true rfl) (hl1 := Nat.le_of_ble_eq_true rfl) (hv := Fw.upN) (kk := fun v563 h567 Ts564 Li565 q566 K568 => ?_)
  obtain ⟨⟨x561, rfl, B562⟩, rfl, rfl⟩ := q566
  show Walk _ _ _ _ _ _ _ _ _ _ _ _ _ _ 1 5 10 _ [(.ref x561)]
  exact Walk.aret d_jdk_17_method_34_code_10 rfl rfl rfl ⟨⟨_, rfl, ⟨B562.1, B562.2.1, B562.2.2⟩⟩, rfl, rfl⟩ (fun _ q => q) (Nat.le_of_ble_eq_true rfl) (Nat.le_of_ble_eq_true rfl)
set_option maxRecDepth 65536 in
set_option maxHeartbeats 40000000 in
theorem c_sc0 {Z : State} {a0 : Array Value} (hw : ∀ d ∈ tables_1, d.before a0 Z = true) {h : Heap} {Ts : TsT} {Li : LiT} {one z10 zs tp th hu : Addr} {f g t1 t2 : Nat → Value} (X : Sx Z one z10 zs tp th hu f g t1 t2) (x d y z : Addr) (v n c : Int32) (R : Int64) (hn : 1 ≤ n.toInt) (D : DR v.toInt64 (n.toInt64 * (Int32.toInt64 ((c &&& 32767) + 1))) R) (E1 : Exa Z h x "com/example/indexwerk/indexwerk/Weight") (F1 : Fld Z h x "com/example/indexwerk/indexwerk/Weight" "numerator" "Ljava/math/BigDecimal;" (.ref one)) (F2 : Fld Z h x "com/example/indexwerk/indexwerk/Weight" "denominator" "Ljava/math/BigDecimal;" (.ref d)) (B1 : Bd Z h d n.toInt64 0) (B2 : Bd Z h y v.toInt64 0) (B3 : Bd Z h z (Int32.toInt64 ((c &&& 32767) + 1)) 0) :
    Con Z (⟨"com/example/indexwerk/indexwerk/Weight", "shareCount", "(Ljava/math/BigDecimal;Ljava/math/BigDecimal;I)Ljava/math/BigDecimal;"⟩ : MethodName) prog_8_method_5_code 4 (some (.object "java/math/BigDecimal")) ({ frames := 9, cells := 3, slots := 15, locals := 147 } : Room) [(.ref x), (.ref y), (.ref z), (.int (0 : Int32))] h Ts Li (noW) (fun v' h' Ts' Li' => (∃ x, v' = some (.ref x) ∧ Bd Z h' x R 0) ∧ Ts' = Ts ∧ Li' = Li) := by
  refine Con.of (ws := Fw h noW) (Ls := #[.val (.ref x), .val (.ref y), .val (.ref z), .val (.int (0 : Int32))]) (plainFor_of_name pn2) (fun m => by first | rfl | (simp [entryFrame, mkF, argsToLocals, Value.category]; done)) (fun E0 => ?_)
  refine Walk.aloadN (pc' := 1) d_prog_8_method_5_code_0 rfl rfl ?_
  refine Walk.getF (pc' := 4) (host := "") (Or.inl (wd28 hw)) Via.refl F1 d_prog_8_method_5_code_1 ?_
  refine Walk.aloadN (pc' := 5) d_prog_8_method_5_code_4 rfl rfl ?_
  refine Walk.callV (pc' := 8) (a := one) (Wd := 0) (as := [(.ref y)]) (rest := []) (wd38 hw) (wd39 hw) (wd41 hw) (wd41 hw) (wd40 hw) (X.b1.kq (Kq.of_ext E0)).1 ((c_mb hw one y 1 v.toInt64 v.toInt64 ⟨(X.b1.kq (Kq.of_ext E0)).1, (X.b1.kq (Kq.of_ext E0)).2.1, (X.b1.kq (Kq.of_ext E0)).2.2⟩ ⟨B2.1, B2.2.1, B2.2.2⟩ (Int64.one_mul _) (own_vback v) (own_i32ne v) (by decide) (own_i32ne v) X).pay (wd42 hw) (wd17 hw) (by decide) (by decide)) (hlen := lenOf pd17 rfl) (hd := d_prog_8_method_5_code_5) (hst := rfl) (hW := Nat.le_of_eq rfl) (hsz := rfl) (hc1 := Nat.le_of_ble_eq_true rfl) (hl1 := Nat.le_of_ble_eq_true rfl) (hv := Fw.upN) (kk := fun v571 h575 Ts572 Li573 q574 K576 => ?_)
  obtain ⟨⟨x569, rfl, B570⟩, rfl, rfl⟩ := q574
  show Walk _ _ _ _ _ _ _ _ _ _ _ _ _ _ 1 5 8 _ [(.ref x569)]
  refine Walk.aloadN (pc' := 9) d_prog_8_method_5_code_8 rfl rfl ?_
  refine Walk.getF (pc' := 12) (host := "") (Or.inl (wd30 hw)) Via.refl (F2.kq K576 (fun q => q)) d_prog_8_method_5_code_9 ?_
  refine Walk.aloadN (pc' := 13) d_prog_8_method_5_code_12 rfl rfl ?_
  refine Walk.callV (pc' := 16) (a := d) (Wd := 1) (as := [(.ref z)]) (rest := [(.ref x569)]) (wd38 hw) (wd39 hw) (wd41 hw) (wd41 hw) (wd40 hw) (B1.1.kq K576) ((c_mb hw d z n.toInt64 (Int32.toInt64 ((c &&& 32767) + 1)) (n.toInt64 * (Int32.toInt64 ((c &&& 32767) + 1))) ⟨(B1.1.kq K576), (B1.2.1.kq K576 (fun q => q)), (B1.2.2.kq K576 (fun q => q))⟩ ⟨(B3.1.kq K576), (B3.2.1.kq K576 (fun q => q)), (B3.2.2.kq K576 (fun q => q))⟩ rfl (own_qback n c hn) D.bmin (own_i32ne n) (own_i32ne _) X).pay (wd42 hw) (wd17 hw) (by decide) (by decide)) (hlen := lenOf pd17 rfl) (hd := d_prog_8_method_5_code_13) (hst := rfl) (hW := Nat.le_of_eq rfl) (hsz := rfl) (hc1 := Nat.le_of_ble_eq_true rfl) (hl1 := Nat.le_of_ble_eq_true rfl) (hv := Fw.upN) (kk := fun v579 h583 Ts580 Li581 q582 K584 => ?_)
  obtain ⟨⟨x577, rfl, B578⟩, rfl, rfl⟩ := q582
  show Walk _ _ _ _ _ _ _ _ _ _ _ _ _ _ 2 10 16 _ [(.ref x577), (.ref x569)]
  refine Walk.iloadN (pc' := 17) d_prog_8_method_5_code_16 rfl ?_
  refine Walk.getS (pc' := 20) (wd64 hw) Via.refl X.s7 d_prog_8_method_5_code_17 ?_
  refine Walk.callV (pc' := 23) (a := x569) (Wd := 0) (as := [(.ref x577), (.int (0 : Int32)), (.ref hu)]) (rest := []) (wd66 hw) (wd67 hw) (wd69 hw) (wd69 hw) (wd68 hw) (B570.1.kq K584) ((c_dr0 hw x569 x577 v.toInt64 (n.toInt64 * (Int32.toInt64 ((c &&& 32767) + 1))) R D (own_i32ne v) ⟨(B570.1.kq K584), (B570.2.1.kq K584 (fun q => q)), (B570.2.2.kq K584 (fun q => q))⟩ ⟨B578.1, B578.2.1, B578.2.2⟩ X).pay (wd70 hw) (wd17 hw) (by decide) (by decide)) (hlen := lenOf pd18 rfl) (hd := d_prog_8_method_5_code_20) (hst := rfl) (hW := Nat.le_of_eq rfl) (hsz := rfl) (hc1 := Nat.le_of_ble_eq_true rfl) (hl1 := Nat.le_of_ble_eq_true rfl) (hv := Fw.upN) (kk := fun v587 h591 Ts588 Li589 q590 K592 => ?_)
  obtain ⟨⟨x585, rfl, B586⟩, rfl, rfl⟩ := q590
  show Walk _ _ _ _ _ _ _ _ _ _ _ _ _ _ 3 15 23 _ [(.ref x585)]
  exact Walk.aret d_prog_8_method_5_code_23 rfl rfl rfl ⟨⟨_, rfl, ⟨B586.1, B586.2.1, B586.2.2⟩⟩, rfl, rfl⟩ (fun _ q => q) (Nat.le_of_ble_eq_true rfl) (Nat.le_of_ble_eq_true rfl)
set_option maxRecDepth 65536 in
set_option maxHeartbeats 40000000 in
theorem c_sc1 {Z : State} {a0 : Array Value} (hw : ∀ d ∈ tables_1, d.before a0 Z = true) {h : Heap} {Ts : TsT} {Li : LiT} {one z10 zs tp th hu : Addr} {f g t1 t2 : Nat → Value} (X : Sx Z one z10 zs tp th hu f g t1 t2) (x d y z : Addr) (v n c : Int32) (R : Int64) (hn : 1 ≤ n.toInt) (D : DR (v.toInt64 * 10) (n.toInt64 * (Int32.toInt64 ((c &&& 32767) + 1))) R) (E1 : Exa Z h x "com/example/indexwerk/indexwerk/Weight") (F1 : Fld Z h x "com/example/indexwerk/indexwerk/Weight" "numerator" "Ljava/math/BigDecimal;" (.ref one)) (F2 : Fld Z h x "com/example/indexwerk/indexwerk/Weight" "denominator" "Ljava/math/BigDecimal;" (.ref d)) (B1 : Bd Z h d n.toInt64 0) (B2 : Bd Z h y v.toInt64 0) (B3 : Bd Z h z (Int32.toInt64 ((c &&& 32767) + 1)) 0) :
    Con Z (⟨"com/example/indexwerk/indexwerk/Weight", "shareCount", "(Ljava/math/BigDecimal;Ljava/math/BigDecimal;I)Ljava/math/BigDecimal;"⟩ : MethodName) prog_8_method_5_code 4 (some (.object "java/math/BigDecimal")) ({ frames := 9, cells := 3, slots := 15, locals := 147 } : Room) [(.ref x), (.ref y), (.ref z), (.int (1 : Int32))] h Ts Li (noW) (fun v' h' Ts' Li' => (∃ x, v' = some (.ref x) ∧ Bd Z h' x R 1) ∧ Ts' = Ts ∧ Li' = Li) := by
  refine Con.of (ws := Fw h noW) (Ls := #[.val (.ref x), .val (.ref y), .val (.ref z), .val (.int (1 : Int32))]) (plainFor_of_name pn2) (fun m => by first | rfl | (simp [entryFrame, mkF, argsToLocals, Value.category]; done)) (fun E0 => ?_)
  refine Walk.aloadN (pc' := 1) d_prog_8_method_5_code_0 rfl rfl ?_
  refine Walk.getF (pc' := 4) (host := "") (Or.inl (wd28 hw)) Via.refl F1 d_prog_8_method_5_code_1 ?_
  refine Walk.aloadN (pc' := 5) d_prog_8_method_5_code_4 rfl rfl ?_
  refine Walk.callV (pc' := 8) (a := one) (Wd := 0) (as := [(.ref y)]) (rest := []) (wd38 hw) (wd39 hw) (wd41 hw) (wd41 hw) (wd40 hw) (X.b1.kq (Kq.of_ext E0)).1 ((c_mb hw one y 1 v.toInt64 v.toInt64 ⟨(X.b1.kq (Kq.of_ext E0)).1, (X.b1.kq (Kq.of_ext E0)).2.1, (X.b1.kq (Kq.of_ext E0)).2.2⟩ ⟨B2.1, B2.2.1, B2.2.2⟩ (Int64.one_mul _) (own_vback v) (own_i32ne v) (by decide) (own_i32ne v) X).pay (wd42 hw) (wd17 hw) (by decide) (by decide)) (hlen := lenOf pd17 rfl) (hd := d_prog_8_method_5_code_5) (hst := rfl) (hW := Nat.le_of_eq rfl) (hsz := rfl) (hc1 := Nat.le_of_ble_eq_true rfl) (hl1 := Nat.le_of_ble_eq_true rfl) (hv := Fw.upN) (kk := fun v595 h599 Ts596 Li597 q598 K600 => ?_)
  obtain ⟨⟨x593, rfl, B594⟩, rfl, rfl⟩ := q598
  show Walk _ _ _ _ _ _ _ _ _ _ _ _ _ _ 1 5 8 _ [(.ref x593)]
  refine Walk.aloadN (pc' := 9) d_prog_8_method_5_code_8 rfl rfl ?_
  refine Walk.getF (pc' := 12) (host := "") (Or.inl (wd30 hw)) Via.refl (F2.kq K600 (fun q => q)) d_prog_8_method_5_code_9 ?_
  refine Walk.aloadN (pc' := 13) d_prog_8_method_5_code_12 rfl rfl ?_
  refine Walk.callV (pc' := 16) (a := d) (Wd := 1) (as := [(.ref z)]) (rest := [(.ref x593)]) (wd38 hw) (wd39 hw) (wd41 hw) (wd41 hw) (wd40 hw) (B1.1.kq K600) ((c_mb hw d z n.toInt64 (Int32.toInt64 ((c &&& 32767) + 1)) (n.toInt64 * (Int32.toInt64 ((c &&& 32767) + 1))) ⟨(B1.1.kq K600), (B1.2.1.kq K600 (fun q => q)), (B1.2.2.kq K600 (fun q => q))⟩ ⟨(B3.1.kq K600), (B3.2.1.kq K600 (fun q => q)), (B3.2.2.kq K600 (fun q => q))⟩ rfl (own_qback n c hn) D.bmin (own_i32ne n) (own_i32ne _) X).pay (wd42 hw) (wd17 hw) (by decide) (by decide)) (hlen := lenOf pd17 rfl) (hd := d_prog_8_method_5_code_13) (hst := rfl) (hW := Nat.le_of_eq rfl) (hsz := rfl) (hc1 := Nat.le_of_ble_eq_true rfl) (hl1 := Nat.le_of_ble_eq_true rfl) (hv := Fw.upN) (kk := fun v603 h607 Ts604 Li605 q606 K608 => ?_)
  obtain ⟨⟨x601, rfl, B602⟩, rfl, rfl⟩ := q606
  show Walk _ _ _ _ _ _ _ _ _ _ _ _ _ _ 2 10 16 _ [(.ref x601), (.ref x593)]
  refine Walk.iloadN (pc' := 17) d_prog_8_method_5_code_16 rfl ?_
  refine Walk.getS (pc' := 20) (wd64 hw) Via.refl X.s7 d_prog_8_method_5_code_17 ?_
  refine Walk.callV (pc' := 23) (a := x593) (Wd := 0) (as := [(.ref x601), (.int (1 : Int32)), (.ref hu)]) (rest := []) (wd66 hw) (wd67 hw) (wd69 hw) (wd69 hw) (wd68 hw) (B594.1.kq K608) ((c_dr1 hw x593 x601 v.toInt64 (n.toInt64 * (Int32.toInt64 ((c &&& 32767) + 1))) R D (own_thr v _ (by decide)) (own_i32ne v) ⟨(B594.1.kq K608), (B594.2.1.kq K608 (fun q => q)), (B594.2.2.kq K608 (fun q => q))⟩ ⟨B602.1, B602.2.1, B602.2.2⟩ X).pay (wd70 hw) (wd17 hw) (by decide) (by decide)) (hlen := lenOf pd18 rfl) (hd := d_prog_8_method_5_code_20) (hst := rfl) (hW := Nat.le_of_eq rfl) (hsz := rfl) (hc1 := Nat.le_of_ble_eq_true rfl) (hl1 := Nat.le_of_ble_eq_true rfl) (hv := Fw.upN) (kk := fun v611 h615 Ts612 Li613 q614 K616 => ?_)
  obtain ⟨⟨x609, rfl, B610⟩, rfl, rfl⟩ := q614
  show Walk _ _ _ _ _ _ _ _ _ _ _ _ _ _ 3 15 23 _ [(.ref x609)]
  exact Walk.aret d_prog_8_method_5_code_23 rfl rfl rfl ⟨⟨_, rfl, ⟨B610.1, B610.2.1, B610.2.2⟩⟩, rfl, rfl⟩ (fun _ q => q) (Nat.le_of_ble_eq_true rfl) (Nat.le_of_ble_eq_true rfl)
set_option maxRecDepth 65536 in
set_option maxHeartbeats 40000000 in
theorem c_sc2 {Z : State} {a0 : Array Value} (hw : ∀ d ∈ tables_1, d.before a0 Z = true) {h : Heap} {Ts : TsT} {Li : LiT} {one z10 zs tp th hu : Addr} {f g t1 t2 : Nat → Value} (X : Sx Z one z10 zs tp th hu f g t1 t2) (x d y z : Addr) (v n c : Int32) (R : Int64) (hn : 1 ≤ n.toInt) (D : DR (v.toInt64 * 100) (n.toInt64 * (Int32.toInt64 ((c &&& 32767) + 1))) R) (E1 : Exa Z h x "com/example/indexwerk/indexwerk/Weight") (F1 : Fld Z h x "com/example/indexwerk/indexwerk/Weight" "numerator" "Ljava/math/BigDecimal;" (.ref one)) (F2 : Fld Z h x "com/example/indexwerk/indexwerk/Weight" "denominator" "Ljava/math/BigDecimal;" (.ref d)) (B1 : Bd Z h d n.toInt64 0) (B2 : Bd Z h y v.toInt64 0) (B3 : Bd Z h z (Int32.toInt64 ((c &&& 32767) + 1)) 0) :
    Con Z (⟨"com/example/indexwerk/indexwerk/Weight", "shareCount", "(Ljava/math/BigDecimal;Ljava/math/BigDecimal;I)Ljava/math/BigDecimal;"⟩ : MethodName) prog_8_method_5_code 4 (some (.object "java/math/BigDecimal")) ({ frames := 9, cells := 3, slots := 15, locals := 147 } : Room) [(.ref x), (.ref y), (.ref z), (.int (2 : Int32))] h Ts Li (noW) (fun v' h' Ts' Li' => (∃ x, v' = some (.ref x) ∧ Bd Z h' x R 2) ∧ Ts' = Ts ∧ Li' = Li) := by
  refine Con.of (ws := Fw h noW) (Ls := #[.val (.ref x), .val (.ref y), .val (.ref z), .val (.int (2 : Int32))]) (plainFor_of_name pn2) (fun m => by first | rfl | (simp [entryFrame, mkF, argsToLocals, Value.category]; done)) (fun E0 => ?_)
  refine Walk.aloadN (pc' := 1) d_prog_8_method_5_code_0 rfl rfl ?_
  refine Walk.getF (pc' := 4) (host := "") (Or.inl (wd28 hw)) Via.refl F1 d_prog_8_method_5_code_1 ?_
  refine Walk.aloadN (pc' := 5) d_prog_8_method_5_code_4 rfl rfl ?_
  refine Walk.callV (pc' := 8) (a := one) (Wd := 0) (as := [(.ref y)]) (rest := []) (wd38 hw) (wd39 hw) (wd41 hw) (wd41 hw) (wd40 hw) (X.b1.kq (Kq.of_ext E0)).1 ((c_mb hw one y 1 v.toInt64 v.toInt64 ⟨(X.b1.kq (Kq.of_ext E0)).1, (X.b1.kq (Kq.of_ext E0)).2.1, (X.b1.kq (Kq.of_ext E0)).2.2⟩ ⟨B2.1, B2.2.1, B2.2.2⟩ (Int64.one_mul _) (own_vback v) (own_i32ne v) (by decide) (own_i32ne v) X).pay (wd42 hw) (wd17 hw) (by decide) (by decide)) (hlen := lenOf pd17 rfl) (hd := d_prog_8_method_5_code_5) (hst := rfl) (hW := Nat.le_of_eq rfl) (hsz := rfl) (hc1 := Nat.le_of_ble_eq_true rfl) (hl1 := Nat.le_of_ble_eq_true rfl) (hv := Fw.upN) (kk := fun v619 h623 Ts620 Li621 q622 K624 => ?_)
  obtain ⟨⟨x617, rfl, B618⟩, rfl, rfl⟩ := q622
  show Walk _ _ _ _ _ _ _ _ _ _ _ _ _ _ 1 5 8 _ [(.ref x617)]
  refine Walk.aloadN (pc' := 9) d_prog_8_method_5_code_8 rfl rfl ?_
  refine Walk.getF (pc' := 12) (host := "") (Or.inl (wd30 hw)) Via.refl (F2.kq K624 (fun q => q)) d_prog_8_method_5_code_9 ?_
  refine Walk.aloadN (pc' := 13) d_prog_8_method_5_code_12 rfl rfl ?_
  refine Walk.callV (pc' := 16) (a := d) (Wd := 1) (as := [(.ref z)]) (rest := [(.ref x617)]) (wd38 hw) (wd39 hw) (wd41 hw) (wd41 hw) (wd40 hw) (B1.1.kq K624) ((c_mb hw d z n.toInt64 (Int32.toInt64 ((c &&& 32767) + 1)) (n.toInt64 * (Int32.toInt64 ((c &&& 32767) + 1))) ⟨(B1.1.kq K624), (B1.2.1.kq K624 (fun q => q)), (B1.2.2.kq K624 (fun q => q))⟩ ⟨(B3.1.kq K624), (B3.2.1.kq K624 (fun q => q)), (B3.2.2.kq K624 (fun q => q))⟩ rfl (own_qback n c hn) D.bmin (own_i32ne n) (own_i32ne _) X).pay (wd42 hw) (wd17 hw) (by decide) (by decide)) (hlen := lenOf pd17 rfl) (hd := d_prog_8_method_5_code_13) (hst := rfl) (hW := Nat.le_of_eq rfl) (hsz := rfl) (hc1 := Nat.le_of_ble_eq_true rfl) (hl1 := Nat.le_of_ble_eq_true rfl) (hv := Fw.upN) (kk := fun v627 h631 Ts628 Li629 q630 K632 => ?_)
  obtain ⟨⟨x625, rfl, B626⟩, rfl, rfl⟩ := q630
  show Walk _ _ _ _ _ _ _ _ _ _ _ _ _ _ 2 10 16 _ [(.ref x625), (.ref x617)]
  refine Walk.iloadN (pc' := 17) d_prog_8_method_5_code_16 rfl ?_
  refine Walk.getS (pc' := 20) (wd64 hw) Via.refl X.s7 d_prog_8_method_5_code_17 ?_
  refine Walk.callV (pc' := 23) (a := x617) (Wd := 0) (as := [(.ref x625), (.int (2 : Int32)), (.ref hu)]) (rest := []) (wd66 hw) (wd67 hw) (wd69 hw) (wd69 hw) (wd68 hw) (B618.1.kq K632) ((c_dr2 hw x617 x625 v.toInt64 (n.toInt64 * (Int32.toInt64 ((c &&& 32767) + 1))) R D (own_thr v _ (by decide)) (own_i32ne v) ⟨(B618.1.kq K632), (B618.2.1.kq K632 (fun q => q)), (B618.2.2.kq K632 (fun q => q))⟩ ⟨B626.1, B626.2.1, B626.2.2⟩ X).pay (wd70 hw) (wd17 hw) (by decide) (by decide)) (hlen := lenOf pd18 rfl) (hd := d_prog_8_method_5_code_20) (hst := rfl) (hW := Nat.le_of_eq rfl) (hsz := rfl) (hc1 := Nat.le_of_ble_eq_true rfl) (hl1 := Nat.le_of_ble_eq_true rfl) (hv := Fw.upN) (kk := fun v635 h639 Ts636 Li637 q638 K640 => ?_)
  obtain ⟨⟨x633, rfl, B634⟩, rfl, rfl⟩ := q638
  show Walk _ _ _ _ _ _ _ _ _ _ _ _ _ _ 3 15 23 _ [(.ref x633)]
  exact Walk.aret d_prog_8_method_5_code_23 rfl rfl rfl ⟨⟨_, rfl, ⟨B634.1, B634.2.1, B634.2.2⟩⟩, rfl, rfl⟩ (fun _ q => q) (Nat.le_of_ble_eq_true rfl) (Nat.le_of_ble_eq_true rfl)
set_option maxRecDepth 65536 in
set_option maxHeartbeats 40000000 in
theorem c_eq {Z : State} {a0 : Array Value} (hw : ∀ d ∈ tables_1, d.before a0 Z = true) {h : Heap} {Ts : TsT} {Li : LiT} (x y : Addr) (v : Int64) (s : Int32) (hv : ¬ v = (-9223372036854775808 : Int64)) (Bx : Bd Z h x v s) (By : Bd Z h y v s) :
    Con Z (⟨"java/math/BigDecimal", "equals", "(Ljava/lang/Object;)Z"⟩ : MethodName) jdk_17_method_72_code 7 (some .boolean) ({ frames := 0, cells := 0, slots := 0, locals := 0 } : Room) [(.ref x), (.ref y)] h Ts Li (noW) (Pu (some (.int 1)) h Ts Li) := by
  refine Con.of (ws := Fw h noW) (Ls := #[.val (.ref x), .val (.ref y), .unset, .unset, .unset, .unset, .unset]) (plainFor_of_name pn0) (fun m => by first | rfl | (simp [entryFrame, mkF, argsToLocals, Value.category]; done)) (fun E0 => ?_)
  refine Walk.aloadN (pc' := 1) d_jdk_17_method_72_code_0 rfl rfl ?_
  refine Walk.instY (pc' := 4) (wd92 hw) (Ins.self By.1) d_jdk_17_method_72_code_1 ?_
  refine Walk.ifNo (pc' := 7) d_jdk_17_method_72_code_4 (XT.i0_eq_f (by decide)) ?_
  refine Walk.aloadN (pc' := 8) d_jdk_17_method_72_code_7 rfl rfl ?_
  refine Walk.castY (pc' := 11) (wd92 hw) (Ins.self By.1) d_jdk_17_method_72_code_8 ?_
  refine Walk.astoreN (pc' := 12) (Ls' := #[.val (.ref x), .val (.ref y), .val (.ref y), .unset, .unset, .unset, .unset]) d_jdk_17_method_72_code_11 rfl rfl ?_
  refine Walk.goto (pc' := 17) d_jdk_17_method_72_code_12 ?_
  refine Walk.aloadN (pc' := 18) d_jdk_17_method_72_code_17 rfl rfl ?_
  refine Walk.aloadN (pc' := 19) d_jdk_17_method_72_code_18 rfl rfl ?_
  by_cases h0 : (Value.ref y) = (.ref x)
  · skip
    refine Walk.acNo (pc' := 22) d_jdk_17_method_72_code_19 rfl rfl (XT.aa_ne_f h0) ?_
    refine Walk.iconst (pc' := 23) (1 : Int32) d_jdk_17_method_72_code_22 rfl ?_
    exact Walk.nret d_jdk_17_method_72_code_23 rfl (by simp) ⟨rfl, rfl, rfl, rfl⟩ (fun _ q => q) (Nat.le_of_ble_eq_true rfl) (Nat.le_of_ble_eq_true rfl)
  · skip
    refine Walk.acYes (pc' := 24) d_jdk_17_method_72_code_19 rfl rfl (XT.aa_ne_t h0) ?_
    refine Walk.aloadN (pc' := 25) d_jdk_17_method_72_code_24 rfl rfl ?_
    refine Walk.getF (pc' := 28) (host := "") (Or.inl (wd43 hw)) Via.refl Bx.2.1 d_jdk_17_method_72_code_25 ?_
    refine Walk.aloadN (pc' := 29) d_jdk_17_method_72_code_28 rfl rfl ?_
    refine Walk.getF (pc' := 32) (host := "") (Or.inl (wd43 hw)) Via.refl By.2.1 d_jdk_17_method_72_code_29 ?_
    refine Walk.icYes (pc' := 37) d_jdk_17_method_72_code_32 (XT.ii_eq_t rfl) ?_
    refine Walk.aloadN (pc' := 38) d_jdk_17_method_72_code_37 rfl rfl ?_
    refine Walk.getF (pc' := 41) (host := "") (Or.inl (wd50 hw)) Via.refl Bx.2.2 d_jdk_17_method_72_code_38 ?_
    refine Walk.lstoreN (pc' := 42) (Ls' := #[.val (.ref x), .val (.ref y), .val (.ref y), .val (.long v), .second, .unset, .unset]) d_jdk_17_method_72_code_41 rfl ?_
    refine Walk.aloadN (pc' := 43) d_jdk_17_method_72_code_42 rfl rfl ?_
    refine Walk.getF (pc' := 46) (host := "") (Or.inl (wd50 hw)) Via.refl By.2.2 d_jdk_17_method_72_code_43 ?_
    refine Walk.lstore (pc' := 48) (Ls' := #[.val (.ref x), .val (.ref y), .val (.ref y), .val (.long v), .second, .val (.long v), .second]) d_jdk_17_method_72_code_46 rfl ?_
    refine Walk.lloadN (pc' := 49) d_jdk_17_method_72_code_48 rfl ?_
    refine Walk.ldcJ (pc' := 52) (wd52 hw) d_jdk_17_method_72_code_49 ?_
    refine Walk.lcmp (pc' := 53) d_jdk_17_method_72_code_52 ?_
    refine Walk.ifNo (pc' := 56) d_jdk_17_method_72_code_53 (XT.ll_eq_f hv) ?_
    refine Walk.lload (pc' := 58) d_jdk_17_method_72_code_56 rfl ?_
    refine Walk.ldcJ (pc' := 61) (wd52 hw) d_jdk_17_method_72_code_58 ?_
    refine Walk.lcmp (pc' := 62) d_jdk_17_method_72_code_61 ?_
    refine Walk.ifYes (pc' := 74) d_jdk_17_method_72_code_62 (XT.ll_ne_t hv) ?_
    refine Walk.lload (pc' := 76) d_jdk_17_method_72_code_74 rfl ?_
    refine Walk.lloadN (pc' := 77) d_jdk_17_method_72_code_76 rfl ?_
    refine Walk.lcmp (pc' := 78) d_jdk_17_method_72_code_77 ?_
    refine Walk.ifNo (pc' := 81) d_jdk_17_method_72_code_78 (XT.ll_ne_f rfl) ?_
    refine Walk.iconst (pc' := 82) (1 : Int32) d_jdk_17_method_72_code_81 rfl ?_
    refine Walk.goto (pc' := 86) d_jdk_17_method_72_code_82 ?_
    exact Walk.nret d_jdk_17_method_72_code_86 rfl (by simp) ⟨rfl, rfl, rfl, rfl⟩ (fun _ q => q) (Nat.le_of_ble_eq_true rfl) (Nat.le_of_ble_eq_true rfl)
set_option maxRecDepth 65536 in
set_option maxHeartbeats 40000000 in
theorem c_law {Z : State} {a0 : Array Value} (hw : ∀ d ∈ tables_1, d.before a0 Z = true) {h : Heap} {Ts : TsT} {Li : LiT} (p0 p1 p2 p3 : Int32) {one z10 zs tp th hu : Addr} {f g t1 t2 : Nat → Value} (X : Sx Z one z10 zs tp th hu f g t1 t2) :
    Con Z x code maxLocals ret room_1 [(.int p0), (.int p1), (.int p2), (.int p3)] h Ts Li (noW) (fun v h' Ts' Li' => v = some (.int 1) ∧ Ts' = Ts) := by
  refine Con.of (ws := Fw h noW) (Ls := #[.val (.int p0), .val (.int p1), .val (.int p2), .val (.int p3), .unset, .unset, .unset, .unset, .unset, .unset, .unset, .unset, .unset, .unset, .unset, .unset, .unset, .unset, .unset, .unset, .unset]) (plainFor_of_name pn3) (fun m => by simp [entryFrame, mkF, argsToLocals, cat_i, cat_j, cat_r, cat_n, maxLocals]) (fun E0 => ?_)
  refine Walk.iconst (pc' := 1) (1 : Int32) at_0 rfl ?_
  refine Walk.iloadN (pc' := 2) at_1 rfl ?_
  refine Walk.ldcI (pc' := 4) (wd0 hw) at_2 ?_
  refine Walk.iand (pc' := 5) at_4 ?_
  obtain ⟨n, hn, hn1⟩ := own_max (p0 &&& 2147483647)
  refine Walk.callS (pc' := 8) (Wd := 0) (as := [(.int (1 : Int32)), (.int (p0 &&& (2147483647 : Int32)))]) (rest := []) (wd1 hw) (wd2 hw) (wd3 hw) (wd4 hw) ((c_max hw 1 (p0 &&& 2147483647) n hn).pay (wd4 hw) (wd3 hw) (by decide) (by decide)) (hlen := lenOf pd19 rfl) (hd := at_5) (hst := rfl) (hW := Nat.le_of_eq rfl) (hsz := rfl) (hc1 := Nat.le_of_ble_eq_true rfl) (hl1 := Nat.le_of_ble_eq_true rfl) (hv := Fw.upN) (kk := fun v641 h645 Ts642 Li643 q644 K646 => ?_)
  obtain ⟨rfl, rfl, rfl, rfl⟩ := q644
  show Walk _ _ _ _ _ _ _ _ _ _ _ _ _ _ 0 0 8 _ [(.int n)]
  refine Walk.istore (pc' := 10) (Ls' := #[.val (.int p0), .val (.int p1), .val (.int p2), .val (.int p3), .val (.int n), .unset, .unset, .unset, .unset, .unset, .unset, .unset, .unset, .unset, .unset, .unset, .unset, .unset, .unset, .unset, .unset]) at_8 rfl ?_
  refine Walk.iloadN (pc' := 11) at_10 rfl ?_
  refine Walk.sipush (pc' := 14) (32767 : Int32) at_11 rfl ?_
  refine Walk.iand (pc' := 15) at_14 ?_
  refine Walk.iconst (pc' := 16) (1 : Int32) at_15 rfl ?_
  refine Walk.iadd (pc' := 17) at_16 ?_
  refine Walk.i2l (pc' := 18) at_17 ?_
  refine Walk.lstore (pc' := 20) (Ls' := #[.val (.int p0), .val (.int p1), .val (.int p2), .val (.int p3), .val (.int n), .val (.long (Int32.toInt64 ((p2 &&& (32767 : Int32)) + (1 : Int32)))), .second, .unset, .unset, .unset, .unset, .unset, .unset, .unset, .unset, .unset, .unset, .unset, .unset, .unset, .unset]) at_18 rfl ?_
  refine Walk.iloadN (pc' := 21) at_20 rfl ?_
  refine Walk.i2l (pc' := 22) at_21 ?_
  refine Walk.lstore (pc' := 24) (Ls' := #[.val (.int p0), .val (.int p1), .val (.int p2), .val (.int p3), .val (.int n), .val (.long (Int32.toInt64 ((p2 &&& (32767 : Int32)) + (1 : Int32)))), .second, .val (.long (Int32.toInt64 p1)), .second, .unset, .unset, .unset, .unset, .unset, .unset, .unset, .unset, .unset, .unset, .unset, .unset]) at_22 rfl ?_
  refine Walk.iloadN (pc' := 25) at_24 rfl ?_
  refine Walk.ldcI (pc' := 27) (wd0 hw) at_25 ?_
  refine Walk.iand (pc' := 28) at_27 ?_
  refine Walk.iconst (pc' := 29) (3 : Int32) at_28 rfl ?_
  refine Walk.irem (pc' := 30) at_29 (by decide) ?_
  rcases rem3 (and_big p3) with e | e | e
  · skip
    rw [e]
    show Walk _ _ _ _ _ _ _ _ _ _ _ _ _ _ 0 0 30 _ [(.int (0 : Int32))]
    refine Walk.istore (pc' := 32) (Ls' := #[.val (.int p0), .val (.int p1), .val (.int p2), .val (.int p3), .val (.int n), .val (.long (Int32.toInt64 ((p2 &&& (32767 : Int32)) + (1 : Int32)))), .second, .val (.long (Int32.toInt64 p1)), .second, .val (.int (0 : Int32)), .unset, .unset, .unset, .unset, .unset, .unset, .unset, .unset, .unset, .unset, .unset]) at_30 rfl ?_
    refine Walk.iload (pc' := 34) at_32 rfl ?_
    refine Walk.ifNo (pc' := 37) at_34 (XT.i0_ne_f rfl) ?_
    refine Walk.lconst (pc' := 38) (1 : Int64) at_37 rfl ?_
    refine Walk.goto (pc' := 56) at_38 ?_
    refine Walk.lstore (pc' := 58) (Ls' := #[.val (.int p0), .val (.int p1), .val (.int p2), .val (.int p3), .val (.int n), .val (.long (Int32.toInt64 ((p2 &&& (32767 : Int32)) + (1 : Int32)))), .second, .val (.long (Int32.toInt64 p1)), .second, .val (.int (0 : Int32)), .val (.long (1 : Int64)), .second, .unset, .unset, .unset, .unset, .unset, .unset, .unset, .unset, .unset]) at_56 rfl ?_
    refine Walk.iload (pc' := 60) at_58 rfl ?_
    refine Walk.i2l (pc' := 61) at_60 ?_
    refine Walk.lload (pc' := 63) at_61 rfl ?_
    refine Walk.lmul (pc' := 64) at_63 ?_
    refine Walk.lstore (pc' := 66) (Ls' := #[.val (.int p0), .val (.int p1), .val (.int p2), .val (.int p3), .val (.int n), .val (.long (Int32.toInt64 ((p2 &&& (32767 : Int32)) + (1 : Int32)))), .second, .val (.long (Int32.toInt64 p1)), .second, .val (.int (0 : Int32)), .val (.long (1 : Int64)), .second, .val (.long ((Int32.toInt64 n) * (Int32.toInt64 ((p2 &&& (32767 : Int32)) + (1 : Int32))))), .second, .unset, .unset, .unset, .unset, .unset, .unset, .unset]) at_64 rfl ?_
    refine Walk.lload (pc' := 68) at_66 rfl ?_
    by_cases hv : (Int32.toInt64 p1) < 0
    · skip
      refine Walk.callS (pc' := 71) (Wd := 0) (as := [(.long (Int32.toInt64 p1))]) (rest := []) (wd6 hw) (wd7 hw) (wd3 hw) (wd8 hw) ((c_abs hw (Int32.toInt64 p1) (-(Int32.toInt64 p1)) (Or.inl ⟨hv, rfl⟩)).pay (wd8 hw) (wd3 hw) (by decide) (by decide)) (hlen := lenOf pd6 rfl) (hd := at_68) (hst := rfl) (hW := Nat.le_of_eq rfl) (hsz := rfl) (hc1 := Nat.le_of_ble_eq_true rfl) (hl1 := Nat.le_of_ble_eq_true rfl) (hv := Fw.upN) (kk := fun v647 h651 Ts648 Li649 q650 K652 => ?_)
      obtain ⟨rfl, rfl, rfl, rfl⟩ := q650
      show Walk _ _ _ _ _ _ _ _ _ _ _ _ _ _ 0 0 71 _ [(.long (-(Int32.toInt64 p1)))]
      refine Walk.lload (pc' := 73) at_71 rfl ?_
      refine Walk.lmul (pc' := 74) at_73 ?_
      refine Walk.lstore (pc' := 76) (Ls' := #[.val (.int p0), .val (.int p1), .val (.int p2), .val (.int p3), .val (.int n), .val (.long (Int32.toInt64 ((p2 &&& (32767 : Int32)) + (1 : Int32)))), .second, .val (.long (Int32.toInt64 p1)), .second, .val (.int (0 : Int32)), .val (.long (1 : Int64)), .second, .val (.long ((Int32.toInt64 n) * (Int32.toInt64 ((p2 &&& (32767 : Int32)) + (1 : Int32))))), .second, .val (.long ((-(Int32.toInt64 p1)) * (1 : Int64))), .second, .unset, .unset, .unset, .unset, .unset]) at_74 rfl ?_
      refine Walk.ldcJ (pc' := 79) (wd9 hw) at_76 ?_
      refine Walk.lload (pc' := 81) at_79 rfl ?_
      refine Walk.lmul (pc' := 82) at_81 ?_
      refine Walk.lload (pc' := 84) at_82 rfl ?_
      refine Walk.ladd (pc' := 85) at_84 ?_
      refine Walk.ldcJ (pc' := 88) (wd9 hw) at_85 ?_
      refine Walk.lload (pc' := 90) at_88 rfl ?_
      refine Walk.lmul (pc' := 91) at_90 ?_
      refine Walk.ldiv (pc' := 92) at_91 (own_2q n p2 hn1) ?_
      refine Walk.lstore (pc' := 94) (Ls' := #[.val (.int p0), .val (.int p1), .val (.int p2), .val (.int p3), .val (.int n), .val (.long (Int32.toInt64 ((p2 &&& (32767 : Int32)) + (1 : Int32)))), .second, .val (.long (Int32.toInt64 p1)), .second, .val (.int (0 : Int32)), .val (.long (1 : Int64)), .second, .val (.long ((Int32.toInt64 n) * (Int32.toInt64 ((p2 &&& (32767 : Int32)) + (1 : Int32))))), .second, .val (.long ((-(Int32.toInt64 p1)) * (1 : Int64))), .second, .val (.long ((((2 : Int64) * ((-(Int32.toInt64 p1)) * (1 : Int64))) + ((Int32.toInt64 n) * (Int32.toInt64 ((p2 &&& (32767 : Int32)) + (1 : Int32))))) / ((2 : Int64) * ((Int32.toInt64 n) * (Int32.toInt64 ((p2 &&& (32767 : Int32)) + (1 : Int32))))))), .second, .unset, .unset, .unset]) at_92 rfl ?_
      refine Walk.lload (pc' := 96) at_94 rfl ?_
      refine Walk.lconst (pc' := 97) (0 : Int64) at_96 rfl ?_
      refine Walk.lcmp (pc' := 98) at_97 ?_
      refine Walk.ifNo (pc' := 101) at_98 (XT.ll_ge_f hv) ?_
      refine Walk.lload (pc' := 103) at_101 rfl ?_
      refine Walk.lneg (pc' := 104) at_103 ?_
      refine Walk.goto (pc' := 109) at_104 ?_
      refine Walk.lstore (pc' := 111) (Ls' := #[.val (.int p0), .val (.int p1), .val (.int p2), .val (.int p3), .val (.int n), .val (.long (Int32.toInt64 ((p2 &&& (32767 : Int32)) + (1 : Int32)))), .second, .val (.long (Int32.toInt64 p1)), .second, .val (.int (0 : Int32)), .val (.long (1 : Int64)), .second, .val (.long ((Int32.toInt64 n) * (Int32.toInt64 ((p2 &&& (32767 : Int32)) + (1 : Int32))))), .second, .val (.long ((-(Int32.toInt64 p1)) * (1 : Int64))), .second, .val (.long ((((2 : Int64) * ((-(Int32.toInt64 p1)) * (1 : Int64))) + ((Int32.toInt64 n) * (Int32.toInt64 ((p2 &&& (32767 : Int32)) + (1 : Int32))))) / ((2 : Int64) * ((Int32.toInt64 n) * (Int32.toInt64 ((p2 &&& (32767 : Int32)) + (1 : Int32))))))), .second, .val (.long (-((((2 : Int64) * ((-(Int32.toInt64 p1)) * (1 : Int64))) + ((Int32.toInt64 n) * (Int32.toInt64 ((p2 &&& (32767 : Int32)) + (1 : Int32))))) / ((2 : Int64) * ((Int32.toInt64 n) * (Int32.toInt64 ((p2 &&& (32767 : Int32)) + (1 : Int32)))))))), .second, .unset]) at_109 rfl ?_
      refine Walk.iload (pc' := 113) at_111 rfl ?_
      obtain ⟨R, hR⟩ : ∃ R, R = (-((((2 : Int64) * ((-(Int32.toInt64 p1)) * (1 : Int64))) + ((Int32.toInt64 n) * (Int32.toInt64 ((p2 &&& (32767 : Int32)) + (1 : Int32))))) / ((2 : Int64) * ((Int32.toInt64 n) * (Int32.toInt64 ((p2 &&& (32767 : Int32)) + (1 : Int32))))))) := ⟨_, rfl⟩
      have D := dr_law p1 n p2 1 (-(Int32.toInt64 p1)) (by decide) hn1 R (Or.inl ⟨hv, rfl, hR⟩)
      rw [← hR]
      clear hR
      replace D := D.one
      refine Walk.callS (pc' := 116) (Wd := 0) (as := [(.int n)]) (rest := []) (wd10 hw) (wd11 hw) (wd12 hw) (wd13 hw) ((c_ea hw n X).pay (wd13 hw) (wd12 hw) (by decide) (by decide)) (hlen := lenOf pd20 rfl) (hd := at_113) (hst := rfl) (hW := Nat.le_of_eq rfl) (hsz := rfl) (hc1 := Nat.le_of_ble_eq_true rfl) (hl1 := Nat.le_of_ble_eq_true rfl) (hv := Fw.upN) (kk := fun v659 h663 Ts660 Li661 q662 K664 => ?_)
      obtain ⟨⟨x653, d654, rfl, E655, G656, G657, B658⟩, rfl, rfl⟩ := q662
      show Walk _ _ _ _ _ _ _ _ _ _ _ _ _ _ 2 7 116 _ [(.ref x653)]
      refine Walk.lload (pc' := 118) at_116 rfl ?_
      refine Walk.callS (pc' := 121) (Wd := 1) (as := [(.long (Int32.toInt64 p1))]) (rest := [(.ref x653)]) (wd32 hw) (wd19 hw) (wd17 hw) (wd20 hw) ((c_vo hw (Int32.toInt64 p1) (own_i32ne p1) X).pay (wd20 hw) (wd17 hw) (by decide) (by decide)) (hlen := lenOf pd4 rfl) (hd := at_118) (hst := rfl) (hW := Nat.le_of_eq rfl) (hsz := rfl) (hc1 := Nat.le_of_ble_eq_true rfl) (hl1 := Nat.le_of_ble_eq_true rfl) (hv := Fw.upN) (kk := fun v667 h671 Ts668 Li669 q670 K672 => ?_)
      obtain ⟨⟨x665, rfl, B666⟩, rfl, rfl⟩ := q670
      show Walk _ _ _ _ _ _ _ _ _ _ _ _ _ _ 3 12 121 _ [(.ref x665), (.ref x653)]
      refine Walk.lload (pc' := 123) at_121 rfl ?_
      refine Walk.callS (pc' := 126) (Wd := 2) (as := [(.long (Int32.toInt64 ((p2 &&& (32767 : Int32)) + (1 : Int32))))]) (rest := [(.ref x665), (.ref x653)]) (wd32 hw) (wd19 hw) (wd17 hw) (wd20 hw) ((c_vo hw (Int32.toInt64 ((p2 &&& (32767 : Int32)) + (1 : Int32))) (own_i32ne _) X).pay (wd20 hw) (wd17 hw) (by decide) (by decide)) (hlen := lenOf pd4 rfl) (hd := at_123) (hst := rfl) (hW := Nat.le_of_eq rfl) (hsz := rfl) (hc1 := Nat.le_of_ble_eq_true rfl) (hl1 := Nat.le_of_ble_eq_true rfl) (hv := Fw.upN) (kk := fun v675 h679 Ts676 Li677 q678 K680 => ?_)
      obtain ⟨⟨x673, rfl, B674⟩, rfl, rfl⟩ := q678
      show Walk _ _ _ _ _ _ _ _ _ _ _ _ _ _ 4 17 126 _ [(.ref x673), (.ref x665), (.ref x653)]
      refine Walk.iload (pc' := 128) at_126 rfl ?_
      refine Walk.callV (pc' := 131) (a := x653) (Wd := 0) (as := [(.ref x665), (.ref x673), (.int (0 : Int32))]) (rest := []) (wd33 hw) (wd34 hw) (wd36 hw) (wd36 hw) (wd35 hw) ((E655.kq K672).kq K680) ((c_sc0 hw X x653 d654 x665 x673 p1 n p2 R hn1 D ((E655.kq K672).kq K680) ((G656.kq K672 (fun q => q)).kq K680 (fun q => q)) ((G657.kq K672 (fun q => q)).kq K680 (fun q => q)) ⟨((B658.1.kq K672).kq K680), ((B658.2.1.kq K672 (fun q => q)).kq K680 (fun q => q)), ((B658.2.2.kq K672 (fun q => q)).kq K680 (fun q => q))⟩ ⟨(B666.1.kq K680), (B666.2.1.kq K680 (fun q => q)), (B666.2.2.kq K680 (fun q => q))⟩ ⟨B674.1, B674.2.1, B674.2.2⟩).pay (wd37 hw) (wd12 hw) (by decide) (by decide)) (hlen := lenOf pd21 rfl) (hd := at_128) (hst := rfl) (hW := Nat.le_of_eq rfl) (hsz := rfl) (hc1 := Nat.le_of_ble_eq_true rfl) (hl1 := Nat.le_of_ble_eq_true rfl) (hv := Fw.upN) (kk := fun v683 h687 Ts684 Li685 q686 K688 => ?_)
      obtain ⟨⟨x681, rfl, B682⟩, rfl, rfl⟩ := q686
      show Walk _ _ _ _ _ _ _ _ _ _ _ _ _ _ 7 32 131 _ [(.ref x681)]
      refine Walk.astore (pc' := 133) (Ls' := #[.val (.int p0), .val (.int p1), .val (.int p2), .val (.int p3), .val (.int n), .val (.long (Int32.toInt64 ((p2 &&& (32767 : Int32)) + (1 : Int32)))), .second, .val (.long (Int32.toInt64 p1)), .second, .val (.int (0 : Int32)), .val (.long (1 : Int64)), .second, .val (.long ((Int32.toInt64 n) * (Int32.toInt64 ((p2 &&& (32767 : Int32)) + (1 : Int32))))), .second, .val (.long ((-(Int32.toInt64 p1)) * (1 : Int64))), .second, .val (.long ((((2 : Int64) * ((-(Int32.toInt64 p1)) * (1 : Int64))) + ((Int32.toInt64 n) * (Int32.toInt64 ((p2 &&& (32767 : Int32)) + (1 : Int32))))) / ((2 : Int64) * ((Int32.toInt64 n) * (Int32.toInt64 ((p2 &&& (32767 : Int32)) + (1 : Int32))))))), .second, .val (.long R), .second, .val (.ref x681)]) at_131 rfl rfl ?_
      refine Walk.aload (pc' := 135) at_133 rfl rfl ?_
      refine Walk.lload (pc' := 137) at_135 rfl ?_
      refine Walk.iload (pc' := 139) at_137 rfl ?_
      refine Walk.callS (pc' := 142) (Wd := 1) (as := [(.long R), (.int (0 : Int32))]) (rest := [(.ref x681)]) (wd109 hw) (wd61 hw) (wd17 hw) (wd62 hw) ((c_vo20 hw R D.ne X).pay (wd62 hw) (wd17 hw) (by decide) (by decide)) (hlen := lenOf pd8 rfl) (hd := at_139) (hst := rfl) (hW := Nat.le_of_eq rfl) (hsz := rfl) (hc1 := Nat.le_of_ble_eq_true rfl) (hl1 := Nat.le_of_ble_eq_true rfl) (hv := Fw.upN) (kk := fun v691 h695 Ts692 Li693 q694 K696 => ?_)
      obtain ⟨⟨x689, rfl, B690⟩, rfl, rfl⟩ := q694
      show Walk _ _ _ _ _ _ _ _ _ _ _ _ _ _ 8 37 142 _ [(.ref x689), (.ref x681)]
      refine Walk.callV (pc' := 145) (a := x681) (Wd := 0) (as := [(.ref x689)]) (rest := []) (wd110 hw) (wd111 hw) (wd113 hw) (wd113 hw) (wd112 hw) (B682.1.kq K696) ((c_eq hw x681 x689 R 0 D.ne ⟨(B682.1.kq K696), (B682.2.1.kq K696 (fun q => q)), (B682.2.2.kq K696 (fun q => q))⟩ ⟨B690.1, B690.2.1, B690.2.2⟩).pay (wd114 hw) (wd17 hw) (by decide) (by decide)) (hlen := lenOf pd22 rfl) (hd := at_142) (hst := rfl) (hW := Nat.le_of_eq rfl) (hsz := rfl) (hc1 := Nat.le_of_ble_eq_true rfl) (hl1 := Nat.le_of_ble_eq_true rfl) (hv := Fw.upN) (kk := fun v697 h701 Ts698 Li699 q700 K702 => ?_)
      obtain ⟨rfl, rfl, rfl, rfl⟩ := q700
      show Walk _ _ _ _ _ _ _ _ _ _ _ _ _ _ 8 37 145 _ [(.int (1 : Int32))]
      exact Walk.nret at_145 rfl (by simp) ⟨rfl, rfl⟩ (fun _ q => q) (Nat.le_of_ble_eq_true rfl) (Nat.le_of_ble_eq_true rfl)
    · skip
      refine Walk.callS (pc' := 71) (Wd := 0) (as := [(.long (Int32.toInt64 p1))]) (rest := []) (wd6 hw) (wd7 hw) (wd3 hw) (wd8 hw) ((c_abs hw (Int32.toInt64 p1) (Int32.toInt64 p1) (Or.inr ⟨hv, rfl⟩)).pay (wd8 hw) (wd3 hw) (by decide) (by decide)) (hlen := lenOf pd6 rfl) (hd := at_68) (hst := rfl) (hW := Nat.le_of_eq rfl) (hsz := rfl) (hc1 := Nat.le_of_ble_eq_true rfl) (hl1 := Nat.le_of_ble_eq_true rfl) (hv := Fw.upN) (kk := fun v703 h707 Ts704 Li705 q706 K708 => ?_)
      obtain ⟨rfl, rfl, rfl, rfl⟩ := q706
      show Walk _ _ _ _ _ _ _ _ _ _ _ _ _ _ 0 0 71 _ [(.long (Int32.toInt64 p1))]
      refine Walk.lload (pc' := 73) at_71 rfl ?_
      refine Walk.lmul (pc' := 74) at_73 ?_
      refine Walk.lstore (pc' := 76) (Ls' := #[.val (.int p0), .val (.int p1), .val (.int p2), .val (.int p3), .val (.int n), .val (.long (Int32.toInt64 ((p2 &&& (32767 : Int32)) + (1 : Int32)))), .second, .val (.long (Int32.toInt64 p1)), .second, .val (.int (0 : Int32)), .val (.long (1 : Int64)), .second, .val (.long ((Int32.toInt64 n) * (Int32.toInt64 ((p2 &&& (32767 : Int32)) + (1 : Int32))))), .second, .val (.long ((Int32.toInt64 p1) * (1 : Int64))), .second, .unset, .unset, .unset, .unset, .unset]) at_74 rfl ?_
      refine Walk.ldcJ (pc' := 79) (wd9 hw) at_76 ?_
      refine Walk.lload (pc' := 81) at_79 rfl ?_
      refine Walk.lmul (pc' := 82) at_81 ?_
      refine Walk.lload (pc' := 84) at_82 rfl ?_
      refine Walk.ladd (pc' := 85) at_84 ?_
      refine Walk.ldcJ (pc' := 88) (wd9 hw) at_85 ?_
      refine Walk.lload (pc' := 90) at_88 rfl ?_
      refine Walk.lmul (pc' := 91) at_90 ?_
      refine Walk.ldiv (pc' := 92) at_91 (own_2q n p2 hn1) ?_
      refine Walk.lstore (pc' := 94) (Ls' := #[.val (.int p0), .val (.int p1), .val (.int p2), .val (.int p3), .val (.int n), .val (.long (Int32.toInt64 ((p2 &&& (32767 : Int32)) + (1 : Int32)))), .second, .val (.long (Int32.toInt64 p1)), .second, .val (.int (0 : Int32)), .val (.long (1 : Int64)), .second, .val (.long ((Int32.toInt64 n) * (Int32.toInt64 ((p2 &&& (32767 : Int32)) + (1 : Int32))))), .second, .val (.long ((Int32.toInt64 p1) * (1 : Int64))), .second, .val (.long ((((2 : Int64) * ((Int32.toInt64 p1) * (1 : Int64))) + ((Int32.toInt64 n) * (Int32.toInt64 ((p2 &&& (32767 : Int32)) + (1 : Int32))))) / ((2 : Int64) * ((Int32.toInt64 n) * (Int32.toInt64 ((p2 &&& (32767 : Int32)) + (1 : Int32))))))), .second, .unset, .unset, .unset]) at_92 rfl ?_
      refine Walk.lload (pc' := 96) at_94 rfl ?_
      refine Walk.lconst (pc' := 97) (0 : Int64) at_96 rfl ?_
      refine Walk.lcmp (pc' := 98) at_97 ?_
      refine Walk.ifYes (pc' := 107) at_98 (XT.ll_ge_t hv) ?_
      refine Walk.lload (pc' := 109) at_107 rfl ?_
      refine Walk.lstore (pc' := 111) (Ls' := #[.val (.int p0), .val (.int p1), .val (.int p2), .val (.int p3), .val (.int n), .val (.long (Int32.toInt64 ((p2 &&& (32767 : Int32)) + (1 : Int32)))), .second, .val (.long (Int32.toInt64 p1)), .second, .val (.int (0 : Int32)), .val (.long (1 : Int64)), .second, .val (.long ((Int32.toInt64 n) * (Int32.toInt64 ((p2 &&& (32767 : Int32)) + (1 : Int32))))), .second, .val (.long ((Int32.toInt64 p1) * (1 : Int64))), .second, .val (.long ((((2 : Int64) * ((Int32.toInt64 p1) * (1 : Int64))) + ((Int32.toInt64 n) * (Int32.toInt64 ((p2 &&& (32767 : Int32)) + (1 : Int32))))) / ((2 : Int64) * ((Int32.toInt64 n) * (Int32.toInt64 ((p2 &&& (32767 : Int32)) + (1 : Int32))))))), .second, .val (.long ((((2 : Int64) * ((Int32.toInt64 p1) * (1 : Int64))) + ((Int32.toInt64 n) * (Int32.toInt64 ((p2 &&& (32767 : Int32)) + (1 : Int32))))) / ((2 : Int64) * ((Int32.toInt64 n) * (Int32.toInt64 ((p2 &&& (32767 : Int32)) + (1 : Int32))))))), .second, .unset]) at_109 rfl ?_
      refine Walk.iload (pc' := 113) at_111 rfl ?_
      obtain ⟨R, hR⟩ : ∃ R, R = ((((2 : Int64) * ((Int32.toInt64 p1) * (1 : Int64))) + ((Int32.toInt64 n) * (Int32.toInt64 ((p2 &&& (32767 : Int32)) + (1 : Int32))))) / ((2 : Int64) * ((Int32.toInt64 n) * (Int32.toInt64 ((p2 &&& (32767 : Int32)) + (1 : Int32)))))) := ⟨_, rfl⟩
      have D := dr_law p1 n p2 1 (Int32.toInt64 p1) (by decide) hn1 R (Or.inr ⟨hv, rfl, hR⟩)
      rw [← hR]
      clear hR
      replace D := D.one
      refine Walk.callS (pc' := 116) (Wd := 0) (as := [(.int n)]) (rest := []) (wd10 hw) (wd11 hw) (wd12 hw) (wd13 hw) ((c_ea hw n X).pay (wd13 hw) (wd12 hw) (by decide) (by decide)) (hlen := lenOf pd20 rfl) (hd := at_113) (hst := rfl) (hW := Nat.le_of_eq rfl) (hsz := rfl) (hc1 := Nat.le_of_ble_eq_true rfl) (hl1 := Nat.le_of_ble_eq_true rfl) (hv := Fw.upN) (kk := fun v715 h719 Ts716 Li717 q718 K720 => ?_)
      obtain ⟨⟨x709, d710, rfl, E711, G712, G713, B714⟩, rfl, rfl⟩ := q718
      show Walk _ _ _ _ _ _ _ _ _ _ _ _ _ _ 2 7 116 _ [(.ref x709)]
      refine Walk.lload (pc' := 118) at_116 rfl ?_
      refine Walk.callS (pc' := 121) (Wd := 1) (as := [(.long (Int32.toInt64 p1))]) (rest := [(.ref x709)]) (wd32 hw) (wd19 hw) (wd17 hw) (wd20 hw) ((c_vo hw (Int32.toInt64 p1) (own_i32ne p1) X).pay (wd20 hw) (wd17 hw) (by decide) (by decide)) (hlen := lenOf pd4 rfl) (hd := at_118) (hst := rfl) (hW := Nat.le_of_eq rfl) (hsz := rfl) (hc1 := Nat.le_of_ble_eq_true rfl) (hl1 := Nat.le_of_ble_eq_true rfl) (hv := Fw.upN) (kk := fun v723 h727 Ts724 Li725 q726 K728 => ?_)
      obtain ⟨⟨x721, rfl, B722⟩, rfl, rfl⟩ := q726
      show Walk _ _ _ _ _ _ _ _ _ _ _ _ _ _ 3 12 121 _ [(.ref x721), (.ref x709)]
      refine Walk.lload (pc' := 123) at_121 rfl ?_
      refine Walk.callS (pc' := 126) (Wd := 2) (as := [(.long (Int32.toInt64 ((p2 &&& (32767 : Int32)) + (1 : Int32))))]) (rest := [(.ref x721), (.ref x709)]) (wd32 hw) (wd19 hw) (wd17 hw) (wd20 hw) ((c_vo hw (Int32.toInt64 ((p2 &&& (32767 : Int32)) + (1 : Int32))) (own_i32ne _) X).pay (wd20 hw) (wd17 hw) (by decide) (by decide)) (hlen := lenOf pd4 rfl) (hd := at_123) (hst := rfl) (hW := Nat.le_of_eq rfl) (hsz := rfl) (hc1 := Nat.le_of_ble_eq_true rfl) (hl1 := Nat.le_of_ble_eq_true rfl) (hv := Fw.upN) (kk := fun v731 h735 Ts732 Li733 q734 K736 => ?_)
      obtain ⟨⟨x729, rfl, B730⟩, rfl, rfl⟩ := q734
      show Walk _ _ _ _ _ _ _ _ _ _ _ _ _ _ 4 17 126 _ [(.ref x729), (.ref x721), (.ref x709)]
      refine Walk.iload (pc' := 128) at_126 rfl ?_
      refine Walk.callV (pc' := 131) (a := x709) (Wd := 0) (as := [(.ref x721), (.ref x729), (.int (0 : Int32))]) (rest := []) (wd33 hw) (wd34 hw) (wd36 hw) (wd36 hw) (wd35 hw) ((E711.kq K728).kq K736) ((c_sc0 hw X x709 d710 x721 x729 p1 n p2 R hn1 D ((E711.kq K728).kq K736) ((G712.kq K728 (fun q => q)).kq K736 (fun q => q)) ((G713.kq K728 (fun q => q)).kq K736 (fun q => q)) ⟨((B714.1.kq K728).kq K736), ((B714.2.1.kq K728 (fun q => q)).kq K736 (fun q => q)), ((B714.2.2.kq K728 (fun q => q)).kq K736 (fun q => q))⟩ ⟨(B722.1.kq K736), (B722.2.1.kq K736 (fun q => q)), (B722.2.2.kq K736 (fun q => q))⟩ ⟨B730.1, B730.2.1, B730.2.2⟩).pay (wd37 hw) (wd12 hw) (by decide) (by decide)) (hlen := lenOf pd21 rfl) (hd := at_128) (hst := rfl) (hW := Nat.le_of_eq rfl) (hsz := rfl) (hc1 := Nat.le_of_ble_eq_true rfl) (hl1 := Nat.le_of_ble_eq_true rfl) (hv := Fw.upN) (kk := fun v739 h743 Ts740 Li741 q742 K744 => ?_)
      obtain ⟨⟨x737, rfl, B738⟩, rfl, rfl⟩ := q742
      show Walk _ _ _ _ _ _ _ _ _ _ _ _ _ _ 7 32 131 _ [(.ref x737)]
      refine Walk.astore (pc' := 133) (Ls' := #[.val (.int p0), .val (.int p1), .val (.int p2), .val (.int p3), .val (.int n), .val (.long (Int32.toInt64 ((p2 &&& (32767 : Int32)) + (1 : Int32)))), .second, .val (.long (Int32.toInt64 p1)), .second, .val (.int (0 : Int32)), .val (.long (1 : Int64)), .second, .val (.long ((Int32.toInt64 n) * (Int32.toInt64 ((p2 &&& (32767 : Int32)) + (1 : Int32))))), .second, .val (.long ((Int32.toInt64 p1) * (1 : Int64))), .second, .val (.long R), .second, .val (.long R), .second, .val (.ref x737)]) at_131 rfl rfl ?_
      refine Walk.aload (pc' := 135) at_133 rfl rfl ?_
      refine Walk.lload (pc' := 137) at_135 rfl ?_
      refine Walk.iload (pc' := 139) at_137 rfl ?_
      refine Walk.callS (pc' := 142) (Wd := 1) (as := [(.long R), (.int (0 : Int32))]) (rest := [(.ref x737)]) (wd109 hw) (wd61 hw) (wd17 hw) (wd62 hw) ((c_vo20 hw R D.ne X).pay (wd62 hw) (wd17 hw) (by decide) (by decide)) (hlen := lenOf pd8 rfl) (hd := at_139) (hst := rfl) (hW := Nat.le_of_eq rfl) (hsz := rfl) (hc1 := Nat.le_of_ble_eq_true rfl) (hl1 := Nat.le_of_ble_eq_true rfl) (hv := Fw.upN) (kk := fun v747 h751 Ts748 Li749 q750 K752 => ?_)
      obtain ⟨⟨x745, rfl, B746⟩, rfl, rfl⟩ := q750
      show Walk _ _ _ _ _ _ _ _ _ _ _ _ _ _ 8 37 142 _ [(.ref x745), (.ref x737)]
      refine Walk.callV (pc' := 145) (a := x737) (Wd := 0) (as := [(.ref x745)]) (rest := []) (wd110 hw) (wd111 hw) (wd113 hw) (wd113 hw) (wd112 hw) (B738.1.kq K752) ((c_eq hw x737 x745 R 0 D.ne ⟨(B738.1.kq K752), (B738.2.1.kq K752 (fun q => q)), (B738.2.2.kq K752 (fun q => q))⟩ ⟨B746.1, B746.2.1, B746.2.2⟩).pay (wd114 hw) (wd17 hw) (by decide) (by decide)) (hlen := lenOf pd22 rfl) (hd := at_142) (hst := rfl) (hW := Nat.le_of_eq rfl) (hsz := rfl) (hc1 := Nat.le_of_ble_eq_true rfl) (hl1 := Nat.le_of_ble_eq_true rfl) (hv := Fw.upN) (kk := fun v753 h757 Ts754 Li755 q756 K758 => ?_)
      obtain ⟨rfl, rfl, rfl, rfl⟩ := q756
      show Walk _ _ _ _ _ _ _ _ _ _ _ _ _ _ 8 37 145 _ [(.int (1 : Int32))]
      exact Walk.nret at_145 rfl (by simp) ⟨rfl, rfl⟩ (fun _ q => q) (Nat.le_of_ble_eq_true rfl) (Nat.le_of_ble_eq_true rfl)
  · skip
    rw [e]
    show Walk _ _ _ _ _ _ _ _ _ _ _ _ _ _ 0 0 30 _ [(.int (1 : Int32))]
    refine Walk.istore (pc' := 32) (Ls' := #[.val (.int p0), .val (.int p1), .val (.int p2), .val (.int p3), .val (.int n), .val (.long (Int32.toInt64 ((p2 &&& (32767 : Int32)) + (1 : Int32)))), .second, .val (.long (Int32.toInt64 p1)), .second, .val (.int (1 : Int32)), .unset, .unset, .unset, .unset, .unset, .unset, .unset, .unset, .unset, .unset, .unset]) at_30 rfl ?_
    refine Walk.iload (pc' := 34) at_32 rfl ?_
    refine Walk.ifYes (pc' := 41) at_34 (XT.i0_ne_t (by decide)) ?_
    refine Walk.iload (pc' := 43) at_41 rfl ?_
    refine Walk.iconst (pc' := 44) (1 : Int32) at_43 rfl ?_
    refine Walk.icNo (pc' := 47) at_44 (XT.ii_ne_f rfl) ?_
    refine Walk.ldcJ (pc' := 50) (wd5 hw) at_47 ?_
    refine Walk.goto (pc' := 56) at_50 ?_
    refine Walk.lstore (pc' := 58) (Ls' := #[.val (.int p0), .val (.int p1), .val (.int p2), .val (.int p3), .val (.int n), .val (.long (Int32.toInt64 ((p2 &&& (32767 : Int32)) + (1 : Int32)))), .second, .val (.long (Int32.toInt64 p1)), .second, .val (.int (1 : Int32)), .val (.long (10 : Int64)), .second, .unset, .unset, .unset, .unset, .unset, .unset, .unset, .unset, .unset]) at_56 rfl ?_
    refine Walk.iload (pc' := 60) at_58 rfl ?_
    refine Walk.i2l (pc' := 61) at_60 ?_
    refine Walk.lload (pc' := 63) at_61 rfl ?_
    refine Walk.lmul (pc' := 64) at_63 ?_
    refine Walk.lstore (pc' := 66) (Ls' := #[.val (.int p0), .val (.int p1), .val (.int p2), .val (.int p3), .val (.int n), .val (.long (Int32.toInt64 ((p2 &&& (32767 : Int32)) + (1 : Int32)))), .second, .val (.long (Int32.toInt64 p1)), .second, .val (.int (1 : Int32)), .val (.long (10 : Int64)), .second, .val (.long ((Int32.toInt64 n) * (Int32.toInt64 ((p2 &&& (32767 : Int32)) + (1 : Int32))))), .second, .unset, .unset, .unset, .unset, .unset, .unset, .unset]) at_64 rfl ?_
    refine Walk.lload (pc' := 68) at_66 rfl ?_
    by_cases hv : (Int32.toInt64 p1) < 0
    · skip
      refine Walk.callS (pc' := 71) (Wd := 0) (as := [(.long (Int32.toInt64 p1))]) (rest := []) (wd6 hw) (wd7 hw) (wd3 hw) (wd8 hw) ((c_abs hw (Int32.toInt64 p1) (-(Int32.toInt64 p1)) (Or.inl ⟨hv, rfl⟩)).pay (wd8 hw) (wd3 hw) (by decide) (by decide)) (hlen := lenOf pd6 rfl) (hd := at_68) (hst := rfl) (hW := Nat.le_of_eq rfl) (hsz := rfl) (hc1 := Nat.le_of_ble_eq_true rfl) (hl1 := Nat.le_of_ble_eq_true rfl) (hv := Fw.upN) (kk := fun v759 h763 Ts760 Li761 q762 K764 => ?_)
      obtain ⟨rfl, rfl, rfl, rfl⟩ := q762
      show Walk _ _ _ _ _ _ _ _ _ _ _ _ _ _ 0 0 71 _ [(.long (-(Int32.toInt64 p1)))]
      refine Walk.lload (pc' := 73) at_71 rfl ?_
      refine Walk.lmul (pc' := 74) at_73 ?_
      refine Walk.lstore (pc' := 76) (Ls' := #[.val (.int p0), .val (.int p1), .val (.int p2), .val (.int p3), .val (.int n), .val (.long (Int32.toInt64 ((p2 &&& (32767 : Int32)) + (1 : Int32)))), .second, .val (.long (Int32.toInt64 p1)), .second, .val (.int (1 : Int32)), .val (.long (10 : Int64)), .second, .val (.long ((Int32.toInt64 n) * (Int32.toInt64 ((p2 &&& (32767 : Int32)) + (1 : Int32))))), .second, .val (.long ((-(Int32.toInt64 p1)) * (10 : Int64))), .second, .unset, .unset, .unset, .unset, .unset]) at_74 rfl ?_
      refine Walk.ldcJ (pc' := 79) (wd9 hw) at_76 ?_
      refine Walk.lload (pc' := 81) at_79 rfl ?_
      refine Walk.lmul (pc' := 82) at_81 ?_
      refine Walk.lload (pc' := 84) at_82 rfl ?_
      refine Walk.ladd (pc' := 85) at_84 ?_
      refine Walk.ldcJ (pc' := 88) (wd9 hw) at_85 ?_
      refine Walk.lload (pc' := 90) at_88 rfl ?_
      refine Walk.lmul (pc' := 91) at_90 ?_
      refine Walk.ldiv (pc' := 92) at_91 (own_2q n p2 hn1) ?_
      refine Walk.lstore (pc' := 94) (Ls' := #[.val (.int p0), .val (.int p1), .val (.int p2), .val (.int p3), .val (.int n), .val (.long (Int32.toInt64 ((p2 &&& (32767 : Int32)) + (1 : Int32)))), .second, .val (.long (Int32.toInt64 p1)), .second, .val (.int (1 : Int32)), .val (.long (10 : Int64)), .second, .val (.long ((Int32.toInt64 n) * (Int32.toInt64 ((p2 &&& (32767 : Int32)) + (1 : Int32))))), .second, .val (.long ((-(Int32.toInt64 p1)) * (10 : Int64))), .second, .val (.long ((((2 : Int64) * ((-(Int32.toInt64 p1)) * (10 : Int64))) + ((Int32.toInt64 n) * (Int32.toInt64 ((p2 &&& (32767 : Int32)) + (1 : Int32))))) / ((2 : Int64) * ((Int32.toInt64 n) * (Int32.toInt64 ((p2 &&& (32767 : Int32)) + (1 : Int32))))))), .second, .unset, .unset, .unset]) at_92 rfl ?_
      refine Walk.lload (pc' := 96) at_94 rfl ?_
      refine Walk.lconst (pc' := 97) (0 : Int64) at_96 rfl ?_
      refine Walk.lcmp (pc' := 98) at_97 ?_
      refine Walk.ifNo (pc' := 101) at_98 (XT.ll_ge_f hv) ?_
      refine Walk.lload (pc' := 103) at_101 rfl ?_
      refine Walk.lneg (pc' := 104) at_103 ?_
      refine Walk.goto (pc' := 109) at_104 ?_
      refine Walk.lstore (pc' := 111) (Ls' := #[.val (.int p0), .val (.int p1), .val (.int p2), .val (.int p3), .val (.int n), .val (.long (Int32.toInt64 ((p2 &&& (32767 : Int32)) + (1 : Int32)))), .second, .val (.long (Int32.toInt64 p1)), .second, .val (.int (1 : Int32)), .val (.long (10 : Int64)), .second, .val (.long ((Int32.toInt64 n) * (Int32.toInt64 ((p2 &&& (32767 : Int32)) + (1 : Int32))))), .second, .val (.long ((-(Int32.toInt64 p1)) * (10 : Int64))), .second, .val (.long ((((2 : Int64) * ((-(Int32.toInt64 p1)) * (10 : Int64))) + ((Int32.toInt64 n) * (Int32.toInt64 ((p2 &&& (32767 : Int32)) + (1 : Int32))))) / ((2 : Int64) * ((Int32.toInt64 n) * (Int32.toInt64 ((p2 &&& (32767 : Int32)) + (1 : Int32))))))), .second, .val (.long (-((((2 : Int64) * ((-(Int32.toInt64 p1)) * (10 : Int64))) + ((Int32.toInt64 n) * (Int32.toInt64 ((p2 &&& (32767 : Int32)) + (1 : Int32))))) / ((2 : Int64) * ((Int32.toInt64 n) * (Int32.toInt64 ((p2 &&& (32767 : Int32)) + (1 : Int32)))))))), .second, .unset]) at_109 rfl ?_
      refine Walk.iload (pc' := 113) at_111 rfl ?_
      obtain ⟨R, hR⟩ : ∃ R, R = (-((((2 : Int64) * ((-(Int32.toInt64 p1)) * (10 : Int64))) + ((Int32.toInt64 n) * (Int32.toInt64 ((p2 &&& (32767 : Int32)) + (1 : Int32))))) / ((2 : Int64) * ((Int32.toInt64 n) * (Int32.toInt64 ((p2 &&& (32767 : Int32)) + (1 : Int32))))))) := ⟨_, rfl⟩
      have D := dr_law p1 n p2 10 (-(Int32.toInt64 p1)) (by decide) hn1 R (Or.inl ⟨hv, rfl, hR⟩)
      rw [← hR]
      clear hR
      refine Walk.callS (pc' := 116) (Wd := 0) (as := [(.int n)]) (rest := []) (wd10 hw) (wd11 hw) (wd12 hw) (wd13 hw) ((c_ea hw n X).pay (wd13 hw) (wd12 hw) (by decide) (by decide)) (hlen := lenOf pd20 rfl) (hd := at_113) (hst := rfl) (hW := Nat.le_of_eq rfl) (hsz := rfl) (hc1 := Nat.le_of_ble_eq_true rfl) (hl1 := Nat.le_of_ble_eq_true rfl) (hv := Fw.upN) (kk := fun v771 h775 Ts772 Li773 q774 K776 => ?_)
      obtain ⟨⟨x765, d766, rfl, E767, G768, G769, B770⟩, rfl, rfl⟩ := q774
      show Walk _ _ _ _ _ _ _ _ _ _ _ _ _ _ 2 7 116 _ [(.ref x765)]
      refine Walk.lload (pc' := 118) at_116 rfl ?_
      refine Walk.callS (pc' := 121) (Wd := 1) (as := [(.long (Int32.toInt64 p1))]) (rest := [(.ref x765)]) (wd32 hw) (wd19 hw) (wd17 hw) (wd20 hw) ((c_vo hw (Int32.toInt64 p1) (own_i32ne p1) X).pay (wd20 hw) (wd17 hw) (by decide) (by decide)) (hlen := lenOf pd4 rfl) (hd := at_118) (hst := rfl) (hW := Nat.le_of_eq rfl) (hsz := rfl) (hc1 := Nat.le_of_ble_eq_true rfl) (hl1 := Nat.le_of_ble_eq_true rfl) (hv := Fw.upN) (kk := fun v779 h783 Ts780 Li781 q782 K784 => ?_)
      obtain ⟨⟨x777, rfl, B778⟩, rfl, rfl⟩ := q782
      show Walk _ _ _ _ _ _ _ _ _ _ _ _ _ _ 3 12 121 _ [(.ref x777), (.ref x765)]
      refine Walk.lload (pc' := 123) at_121 rfl ?_
      refine Walk.callS (pc' := 126) (Wd := 2) (as := [(.long (Int32.toInt64 ((p2 &&& (32767 : Int32)) + (1 : Int32))))]) (rest := [(.ref x777), (.ref x765)]) (wd32 hw) (wd19 hw) (wd17 hw) (wd20 hw) ((c_vo hw (Int32.toInt64 ((p2 &&& (32767 : Int32)) + (1 : Int32))) (own_i32ne _) X).pay (wd20 hw) (wd17 hw) (by decide) (by decide)) (hlen := lenOf pd4 rfl) (hd := at_123) (hst := rfl) (hW := Nat.le_of_eq rfl) (hsz := rfl) (hc1 := Nat.le_of_ble_eq_true rfl) (hl1 := Nat.le_of_ble_eq_true rfl) (hv := Fw.upN) (kk := fun v787 h791 Ts788 Li789 q790 K792 => ?_)
      obtain ⟨⟨x785, rfl, B786⟩, rfl, rfl⟩ := q790
      show Walk _ _ _ _ _ _ _ _ _ _ _ _ _ _ 4 17 126 _ [(.ref x785), (.ref x777), (.ref x765)]
      refine Walk.iload (pc' := 128) at_126 rfl ?_
      refine Walk.callV (pc' := 131) (a := x765) (Wd := 0) (as := [(.ref x777), (.ref x785), (.int (1 : Int32))]) (rest := []) (wd33 hw) (wd34 hw) (wd36 hw) (wd36 hw) (wd35 hw) ((E767.kq K784).kq K792) ((c_sc1 hw X x765 d766 x777 x785 p1 n p2 R hn1 D ((E767.kq K784).kq K792) ((G768.kq K784 (fun q => q)).kq K792 (fun q => q)) ((G769.kq K784 (fun q => q)).kq K792 (fun q => q)) ⟨((B770.1.kq K784).kq K792), ((B770.2.1.kq K784 (fun q => q)).kq K792 (fun q => q)), ((B770.2.2.kq K784 (fun q => q)).kq K792 (fun q => q))⟩ ⟨(B778.1.kq K792), (B778.2.1.kq K792 (fun q => q)), (B778.2.2.kq K792 (fun q => q))⟩ ⟨B786.1, B786.2.1, B786.2.2⟩).pay (wd37 hw) (wd12 hw) (by decide) (by decide)) (hlen := lenOf pd21 rfl) (hd := at_128) (hst := rfl) (hW := Nat.le_of_eq rfl) (hsz := rfl) (hc1 := Nat.le_of_ble_eq_true rfl) (hl1 := Nat.le_of_ble_eq_true rfl) (hv := Fw.upN) (kk := fun v795 h799 Ts796 Li797 q798 K800 => ?_)
      obtain ⟨⟨x793, rfl, B794⟩, rfl, rfl⟩ := q798
      show Walk _ _ _ _ _ _ _ _ _ _ _ _ _ _ 7 32 131 _ [(.ref x793)]
      refine Walk.astore (pc' := 133) (Ls' := #[.val (.int p0), .val (.int p1), .val (.int p2), .val (.int p3), .val (.int n), .val (.long (Int32.toInt64 ((p2 &&& (32767 : Int32)) + (1 : Int32)))), .second, .val (.long (Int32.toInt64 p1)), .second, .val (.int (1 : Int32)), .val (.long (10 : Int64)), .second, .val (.long ((Int32.toInt64 n) * (Int32.toInt64 ((p2 &&& (32767 : Int32)) + (1 : Int32))))), .second, .val (.long ((-(Int32.toInt64 p1)) * (10 : Int64))), .second, .val (.long ((((2 : Int64) * ((-(Int32.toInt64 p1)) * (10 : Int64))) + ((Int32.toInt64 n) * (Int32.toInt64 ((p2 &&& (32767 : Int32)) + (1 : Int32))))) / ((2 : Int64) * ((Int32.toInt64 n) * (Int32.toInt64 ((p2 &&& (32767 : Int32)) + (1 : Int32))))))), .second, .val (.long R), .second, .val (.ref x793)]) at_131 rfl rfl ?_
      refine Walk.aload (pc' := 135) at_133 rfl rfl ?_
      refine Walk.lload (pc' := 137) at_135 rfl ?_
      refine Walk.iload (pc' := 139) at_137 rfl ?_
      refine Walk.callS (pc' := 142) (Wd := 1) (as := [(.long R), (.int (1 : Int32))]) (rest := [(.ref x793)]) (wd109 hw) (wd61 hw) (wd17 hw) (wd62 hw) ((c_vo21 hw R D.ne X).pay (wd62 hw) (wd17 hw) (by decide) (by decide)) (hlen := lenOf pd8 rfl) (hd := at_139) (hst := rfl) (hW := Nat.le_of_eq rfl) (hsz := rfl) (hc1 := Nat.le_of_ble_eq_true rfl) (hl1 := Nat.le_of_ble_eq_true rfl) (hv := Fw.upN) (kk := fun v803 h807 Ts804 Li805 q806 K808 => ?_)
      obtain ⟨⟨x801, rfl, B802⟩, rfl, rfl⟩ := q806
      show Walk _ _ _ _ _ _ _ _ _ _ _ _ _ _ 8 37 142 _ [(.ref x801), (.ref x793)]
      refine Walk.callV (pc' := 145) (a := x793) (Wd := 0) (as := [(.ref x801)]) (rest := []) (wd110 hw) (wd111 hw) (wd113 hw) (wd113 hw) (wd112 hw) (B794.1.kq K808) ((c_eq hw x793 x801 R 1 D.ne ⟨(B794.1.kq K808), (B794.2.1.kq K808 (fun q => q)), (B794.2.2.kq K808 (fun q => q))⟩ ⟨B802.1, B802.2.1, B802.2.2⟩).pay (wd114 hw) (wd17 hw) (by decide) (by decide)) (hlen := lenOf pd22 rfl) (hd := at_142) (hst := rfl) (hW := Nat.le_of_eq rfl) (hsz := rfl) (hc1 := Nat.le_of_ble_eq_true rfl) (hl1 := Nat.le_of_ble_eq_true rfl) (hv := Fw.upN) (kk := fun v809 h813 Ts810 Li811 q812 K814 => ?_)
      obtain ⟨rfl, rfl, rfl, rfl⟩ := q812
      show Walk _ _ _ _ _ _ _ _ _ _ _ _ _ _ 8 37 145 _ [(.int (1 : Int32))]
      exact Walk.nret at_145 rfl (by simp) ⟨rfl, rfl⟩ (fun _ q => q) (Nat.le_of_ble_eq_true rfl) (Nat.le_of_ble_eq_true rfl)
    · skip
      refine Walk.callS (pc' := 71) (Wd := 0) (as := [(.long (Int32.toInt64 p1))]) (rest := []) (wd6 hw) (wd7 hw) (wd3 hw) (wd8 hw) ((c_abs hw (Int32.toInt64 p1) (Int32.toInt64 p1) (Or.inr ⟨hv, rfl⟩)).pay (wd8 hw) (wd3 hw) (by decide) (by decide)) (hlen := lenOf pd6 rfl) (hd := at_68) (hst := rfl) (hW := Nat.le_of_eq rfl) (hsz := rfl) (hc1 := Nat.le_of_ble_eq_true rfl) (hl1 := Nat.le_of_ble_eq_true rfl) (hv := Fw.upN) (kk := fun v815 h819 Ts816 Li817 q818 K820 => ?_)
      obtain ⟨rfl, rfl, rfl, rfl⟩ := q818
      show Walk _ _ _ _ _ _ _ _ _ _ _ _ _ _ 0 0 71 _ [(.long (Int32.toInt64 p1))]
      refine Walk.lload (pc' := 73) at_71 rfl ?_
      refine Walk.lmul (pc' := 74) at_73 ?_
      refine Walk.lstore (pc' := 76) (Ls' := #[.val (.int p0), .val (.int p1), .val (.int p2), .val (.int p3), .val (.int n), .val (.long (Int32.toInt64 ((p2 &&& (32767 : Int32)) + (1 : Int32)))), .second, .val (.long (Int32.toInt64 p1)), .second, .val (.int (1 : Int32)), .val (.long (10 : Int64)), .second, .val (.long ((Int32.toInt64 n) * (Int32.toInt64 ((p2 &&& (32767 : Int32)) + (1 : Int32))))), .second, .val (.long ((Int32.toInt64 p1) * (10 : Int64))), .second, .unset, .unset, .unset, .unset, .unset]) at_74 rfl ?_
      refine Walk.ldcJ (pc' := 79) (wd9 hw) at_76 ?_
      refine Walk.lload (pc' := 81) at_79 rfl ?_
      refine Walk.lmul (pc' := 82) at_81 ?_
      refine Walk.lload (pc' := 84) at_82 rfl ?_
      refine Walk.ladd (pc' := 85) at_84 ?_
      refine Walk.ldcJ (pc' := 88) (wd9 hw) at_85 ?_
      refine Walk.lload (pc' := 90) at_88 rfl ?_
      refine Walk.lmul (pc' := 91) at_90 ?_
      refine Walk.ldiv (pc' := 92) at_91 (own_2q n p2 hn1) ?_
      refine Walk.lstore (pc' := 94) (Ls' := #[.val (.int p0), .val (.int p1), .val (.int p2), .val (.int p3), .val (.int n), .val (.long (Int32.toInt64 ((p2 &&& (32767 : Int32)) + (1 : Int32)))), .second, .val (.long (Int32.toInt64 p1)), .second, .val (.int (1 : Int32)), .val (.long (10 : Int64)), .second, .val (.long ((Int32.toInt64 n) * (Int32.toInt64 ((p2 &&& (32767 : Int32)) + (1 : Int32))))), .second, .val (.long ((Int32.toInt64 p1) * (10 : Int64))), .second, .val (.long ((((2 : Int64) * ((Int32.toInt64 p1) * (10 : Int64))) + ((Int32.toInt64 n) * (Int32.toInt64 ((p2 &&& (32767 : Int32)) + (1 : Int32))))) / ((2 : Int64) * ((Int32.toInt64 n) * (Int32.toInt64 ((p2 &&& (32767 : Int32)) + (1 : Int32))))))), .second, .unset, .unset, .unset]) at_92 rfl ?_
      refine Walk.lload (pc' := 96) at_94 rfl ?_
      refine Walk.lconst (pc' := 97) (0 : Int64) at_96 rfl ?_
      refine Walk.lcmp (pc' := 98) at_97 ?_
      refine Walk.ifYes (pc' := 107) at_98 (XT.ll_ge_t hv) ?_
      refine Walk.lload (pc' := 109) at_107 rfl ?_
      refine Walk.lstore (pc' := 111) (Ls' := #[.val (.int p0), .val (.int p1), .val (.int p2), .val (.int p3), .val (.int n), .val (.long (Int32.toInt64 ((p2 &&& (32767 : Int32)) + (1 : Int32)))), .second, .val (.long (Int32.toInt64 p1)), .second, .val (.int (1 : Int32)), .val (.long (10 : Int64)), .second, .val (.long ((Int32.toInt64 n) * (Int32.toInt64 ((p2 &&& (32767 : Int32)) + (1 : Int32))))), .second, .val (.long ((Int32.toInt64 p1) * (10 : Int64))), .second, .val (.long ((((2 : Int64) * ((Int32.toInt64 p1) * (10 : Int64))) + ((Int32.toInt64 n) * (Int32.toInt64 ((p2 &&& (32767 : Int32)) + (1 : Int32))))) / ((2 : Int64) * ((Int32.toInt64 n) * (Int32.toInt64 ((p2 &&& (32767 : Int32)) + (1 : Int32))))))), .second, .val (.long ((((2 : Int64) * ((Int32.toInt64 p1) * (10 : Int64))) + ((Int32.toInt64 n) * (Int32.toInt64 ((p2 &&& (32767 : Int32)) + (1 : Int32))))) / ((2 : Int64) * ((Int32.toInt64 n) * (Int32.toInt64 ((p2 &&& (32767 : Int32)) + (1 : Int32))))))), .second, .unset]) at_109 rfl ?_
      refine Walk.iload (pc' := 113) at_111 rfl ?_
      obtain ⟨R, hR⟩ : ∃ R, R = ((((2 : Int64) * ((Int32.toInt64 p1) * (10 : Int64))) + ((Int32.toInt64 n) * (Int32.toInt64 ((p2 &&& (32767 : Int32)) + (1 : Int32))))) / ((2 : Int64) * ((Int32.toInt64 n) * (Int32.toInt64 ((p2 &&& (32767 : Int32)) + (1 : Int32)))))) := ⟨_, rfl⟩
      have D := dr_law p1 n p2 10 (Int32.toInt64 p1) (by decide) hn1 R (Or.inr ⟨hv, rfl, hR⟩)
      rw [← hR]
      clear hR
      refine Walk.callS (pc' := 116) (Wd := 0) (as := [(.int n)]) (rest := []) (wd10 hw) (wd11 hw) (wd12 hw) (wd13 hw) ((c_ea hw n X).pay (wd13 hw) (wd12 hw) (by decide) (by decide)) (hlen := lenOf pd20 rfl) (hd := at_113) (hst := rfl) (hW := Nat.le_of_eq rfl) (hsz := rfl) (hc1 := Nat.le_of_ble_eq_true rfl) (hl1 := Nat.le_of_ble_eq_true rfl) (hv := Fw.upN) (kk := fun v827 h831 Ts828 Li829 q830 K832 => ?_)
      obtain ⟨⟨x821, d822, rfl, E823, G824, G825, B826⟩, rfl, rfl⟩ := q830
      show Walk _ _ _ _ _ _ _ _ _ _ _ _ _ _ 2 7 116 _ [(.ref x821)]
      refine Walk.lload (pc' := 118) at_116 rfl ?_
      refine Walk.callS (pc' := 121) (Wd := 1) (as := [(.long (Int32.toInt64 p1))]) (rest := [(.ref x821)]) (wd32 hw) (wd19 hw) (wd17 hw) (wd20 hw) ((c_vo hw (Int32.toInt64 p1) (own_i32ne p1) X).pay (wd20 hw) (wd17 hw) (by decide) (by decide)) (hlen := lenOf pd4 rfl) (hd := at_118) (hst := rfl) (hW := Nat.le_of_eq rfl) (hsz := rfl) (hc1 := Nat.le_of_ble_eq_true rfl) (hl1 := Nat.le_of_ble_eq_true rfl) (hv := Fw.upN) (kk := fun v835 h839 Ts836 Li837 q838 K840 => ?_)
      obtain ⟨⟨x833, rfl, B834⟩, rfl, rfl⟩ := q838
      show Walk _ _ _ _ _ _ _ _ _ _ _ _ _ _ 3 12 121 _ [(.ref x833), (.ref x821)]
      refine Walk.lload (pc' := 123) at_121 rfl ?_
      refine Walk.callS (pc' := 126) (Wd := 2) (as := [(.long (Int32.toInt64 ((p2 &&& (32767 : Int32)) + (1 : Int32))))]) (rest := [(.ref x833), (.ref x821)]) (wd32 hw) (wd19 hw) (wd17 hw) (wd20 hw) ((c_vo hw (Int32.toInt64 ((p2 &&& (32767 : Int32)) + (1 : Int32))) (own_i32ne _) X).pay (wd20 hw) (wd17 hw) (by decide) (by decide)) (hlen := lenOf pd4 rfl) (hd := at_123) (hst := rfl) (hW := Nat.le_of_eq rfl) (hsz := rfl) (hc1 := Nat.le_of_ble_eq_true rfl) (hl1 := Nat.le_of_ble_eq_true rfl) (hv := Fw.upN) (kk := fun v843 h847 Ts844 Li845 q846 K848 => ?_)
      obtain ⟨⟨x841, rfl, B842⟩, rfl, rfl⟩ := q846
      show Walk _ _ _ _ _ _ _ _ _ _ _ _ _ _ 4 17 126 _ [(.ref x841), (.ref x833), (.ref x821)]
      refine Walk.iload (pc' := 128) at_126 rfl ?_
      refine Walk.callV (pc' := 131) (a := x821) (Wd := 0) (as := [(.ref x833), (.ref x841), (.int (1 : Int32))]) (rest := []) (wd33 hw) (wd34 hw) (wd36 hw) (wd36 hw) (wd35 hw) ((E823.kq K840).kq K848) ((c_sc1 hw X x821 d822 x833 x841 p1 n p2 R hn1 D ((E823.kq K840).kq K848) ((G824.kq K840 (fun q => q)).kq K848 (fun q => q)) ((G825.kq K840 (fun q => q)).kq K848 (fun q => q)) ⟨((B826.1.kq K840).kq K848), ((B826.2.1.kq K840 (fun q => q)).kq K848 (fun q => q)), ((B826.2.2.kq K840 (fun q => q)).kq K848 (fun q => q))⟩ ⟨(B834.1.kq K848), (B834.2.1.kq K848 (fun q => q)), (B834.2.2.kq K848 (fun q => q))⟩ ⟨B842.1, B842.2.1, B842.2.2⟩).pay (wd37 hw) (wd12 hw) (by decide) (by decide)) (hlen := lenOf pd21 rfl) (hd := at_128) (hst := rfl) (hW := Nat.le_of_eq rfl) (hsz := rfl) (hc1 := Nat.le_of_ble_eq_true rfl) (hl1 := Nat.le_of_ble_eq_true rfl) (hv := Fw.upN) (kk := fun v851 h855 Ts852 Li853 q854 K856 => ?_)
      obtain ⟨⟨x849, rfl, B850⟩, rfl, rfl⟩ := q854
      show Walk _ _ _ _ _ _ _ _ _ _ _ _ _ _ 7 32 131 _ [(.ref x849)]
      refine Walk.astore (pc' := 133) (Ls' := #[.val (.int p0), .val (.int p1), .val (.int p2), .val (.int p3), .val (.int n), .val (.long (Int32.toInt64 ((p2 &&& (32767 : Int32)) + (1 : Int32)))), .second, .val (.long (Int32.toInt64 p1)), .second, .val (.int (1 : Int32)), .val (.long (10 : Int64)), .second, .val (.long ((Int32.toInt64 n) * (Int32.toInt64 ((p2 &&& (32767 : Int32)) + (1 : Int32))))), .second, .val (.long ((Int32.toInt64 p1) * (10 : Int64))), .second, .val (.long R), .second, .val (.long R), .second, .val (.ref x849)]) at_131 rfl rfl ?_
      refine Walk.aload (pc' := 135) at_133 rfl rfl ?_
      refine Walk.lload (pc' := 137) at_135 rfl ?_
      refine Walk.iload (pc' := 139) at_137 rfl ?_
      refine Walk.callS (pc' := 142) (Wd := 1) (as := [(.long R), (.int (1 : Int32))]) (rest := [(.ref x849)]) (wd109 hw) (wd61 hw) (wd17 hw) (wd62 hw) ((c_vo21 hw R D.ne X).pay (wd62 hw) (wd17 hw) (by decide) (by decide)) (hlen := lenOf pd8 rfl) (hd := at_139) (hst := rfl) (hW := Nat.le_of_eq rfl) (hsz := rfl) (hc1 := Nat.le_of_ble_eq_true rfl) (hl1 := Nat.le_of_ble_eq_true rfl) (hv := Fw.upN) (kk := fun v859 h863 Ts860 Li861 q862 K864 => ?_)
      obtain ⟨⟨x857, rfl, B858⟩, rfl, rfl⟩ := q862
      show Walk _ _ _ _ _ _ _ _ _ _ _ _ _ _ 8 37 142 _ [(.ref x857), (.ref x849)]
      refine Walk.callV (pc' := 145) (a := x849) (Wd := 0) (as := [(.ref x857)]) (rest := []) (wd110 hw) (wd111 hw) (wd113 hw) (wd113 hw) (wd112 hw) (B850.1.kq K864) ((c_eq hw x849 x857 R 1 D.ne ⟨(B850.1.kq K864), (B850.2.1.kq K864 (fun q => q)), (B850.2.2.kq K864 (fun q => q))⟩ ⟨B858.1, B858.2.1, B858.2.2⟩).pay (wd114 hw) (wd17 hw) (by decide) (by decide)) (hlen := lenOf pd22 rfl) (hd := at_142) (hst := rfl) (hW := Nat.le_of_eq rfl) (hsz := rfl) (hc1 := Nat.le_of_ble_eq_true rfl) (hl1 := Nat.le_of_ble_eq_true rfl) (hv := Fw.upN) (kk := fun v865 h869 Ts866 Li867 q868 K870 => ?_)
      obtain ⟨rfl, rfl, rfl, rfl⟩ := q868
      show Walk _ _ _ _ _ _ _ _ _ _ _ _ _ _ 8 37 145 _ [(.int (1 : Int32))]
      exact Walk.nret at_145 rfl (by simp) ⟨rfl, rfl⟩ (fun _ q => q) (Nat.le_of_ble_eq_true rfl) (Nat.le_of_ble_eq_true rfl)
  · skip
    rw [e]
    show Walk _ _ _ _ _ _ _ _ _ _ _ _ _ _ 0 0 30 _ [(.int (2 : Int32))]
    refine Walk.istore (pc' := 32) (Ls' := #[.val (.int p0), .val (.int p1), .val (.int p2), .val (.int p3), .val (.int n), .val (.long (Int32.toInt64 ((p2 &&& (32767 : Int32)) + (1 : Int32)))), .second, .val (.long (Int32.toInt64 p1)), .second, .val (.int (2 : Int32)), .unset, .unset, .unset, .unset, .unset, .unset, .unset, .unset, .unset, .unset, .unset]) at_30 rfl ?_
    refine Walk.iload (pc' := 34) at_32 rfl ?_
    refine Walk.ifYes (pc' := 41) at_34 (XT.i0_ne_t (by decide)) ?_
    refine Walk.iload (pc' := 43) at_41 rfl ?_
    refine Walk.iconst (pc' := 44) (1 : Int32) at_43 rfl ?_
    refine Walk.icYes (pc' := 53) at_44 (XT.ii_ne_t (by decide)) ?_
    refine Walk.ldcJ (pc' := 56) (wd136 hw) at_53 ?_
    refine Walk.lstore (pc' := 58) (Ls' := #[.val (.int p0), .val (.int p1), .val (.int p2), .val (.int p3), .val (.int n), .val (.long (Int32.toInt64 ((p2 &&& (32767 : Int32)) + (1 : Int32)))), .second, .val (.long (Int32.toInt64 p1)), .second, .val (.int (2 : Int32)), .val (.long (100 : Int64)), .second, .unset, .unset, .unset, .unset, .unset, .unset, .unset, .unset, .unset]) at_56 rfl ?_
    refine Walk.iload (pc' := 60) at_58 rfl ?_
    refine Walk.i2l (pc' := 61) at_60 ?_
    refine Walk.lload (pc' := 63) at_61 rfl ?_
    refine Walk.lmul (pc' := 64) at_63 ?_
    refine Walk.lstore (pc' := 66) (Ls' := #[.val (.int p0), .val (.int p1), .val (.int p2), .val (.int p3), .val (.int n), .val (.long (Int32.toInt64 ((p2 &&& (32767 : Int32)) + (1 : Int32)))), .second, .val (.long (Int32.toInt64 p1)), .second, .val (.int (2 : Int32)), .val (.long (100 : Int64)), .second, .val (.long ((Int32.toInt64 n) * (Int32.toInt64 ((p2 &&& (32767 : Int32)) + (1 : Int32))))), .second, .unset, .unset, .unset, .unset, .unset, .unset, .unset]) at_64 rfl ?_
    refine Walk.lload (pc' := 68) at_66 rfl ?_
    by_cases hv : (Int32.toInt64 p1) < 0
    · skip
      refine Walk.callS (pc' := 71) (Wd := 0) (as := [(.long (Int32.toInt64 p1))]) (rest := []) (wd6 hw) (wd7 hw) (wd3 hw) (wd8 hw) ((c_abs hw (Int32.toInt64 p1) (-(Int32.toInt64 p1)) (Or.inl ⟨hv, rfl⟩)).pay (wd8 hw) (wd3 hw) (by decide) (by decide)) (hlen := lenOf pd6 rfl) (hd := at_68) (hst := rfl) (hW := Nat.le_of_eq rfl) (hsz := rfl) (hc1 := Nat.le_of_ble_eq_true rfl) (hl1 := Nat.le_of_ble_eq_true rfl) (hv := Fw.upN) (kk := fun v871 h875 Ts872 Li873 q874 K876 => ?_)
      obtain ⟨rfl, rfl, rfl, rfl⟩ := q874
      show Walk _ _ _ _ _ _ _ _ _ _ _ _ _ _ 0 0 71 _ [(.long (-(Int32.toInt64 p1)))]
      refine Walk.lload (pc' := 73) at_71 rfl ?_
      refine Walk.lmul (pc' := 74) at_73 ?_
      refine Walk.lstore (pc' := 76) (Ls' := #[.val (.int p0), .val (.int p1), .val (.int p2), .val (.int p3), .val (.int n), .val (.long (Int32.toInt64 ((p2 &&& (32767 : Int32)) + (1 : Int32)))), .second, .val (.long (Int32.toInt64 p1)), .second, .val (.int (2 : Int32)), .val (.long (100 : Int64)), .second, .val (.long ((Int32.toInt64 n) * (Int32.toInt64 ((p2 &&& (32767 : Int32)) + (1 : Int32))))), .second, .val (.long ((-(Int32.toInt64 p1)) * (100 : Int64))), .second, .unset, .unset, .unset, .unset, .unset]) at_74 rfl ?_
      refine Walk.ldcJ (pc' := 79) (wd9 hw) at_76 ?_
      refine Walk.lload (pc' := 81) at_79 rfl ?_
      refine Walk.lmul (pc' := 82) at_81 ?_
      refine Walk.lload (pc' := 84) at_82 rfl ?_
      refine Walk.ladd (pc' := 85) at_84 ?_
      refine Walk.ldcJ (pc' := 88) (wd9 hw) at_85 ?_
      refine Walk.lload (pc' := 90) at_88 rfl ?_
      refine Walk.lmul (pc' := 91) at_90 ?_
      refine Walk.ldiv (pc' := 92) at_91 (own_2q n p2 hn1) ?_
      refine Walk.lstore (pc' := 94) (Ls' := #[.val (.int p0), .val (.int p1), .val (.int p2), .val (.int p3), .val (.int n), .val (.long (Int32.toInt64 ((p2 &&& (32767 : Int32)) + (1 : Int32)))), .second, .val (.long (Int32.toInt64 p1)), .second, .val (.int (2 : Int32)), .val (.long (100 : Int64)), .second, .val (.long ((Int32.toInt64 n) * (Int32.toInt64 ((p2 &&& (32767 : Int32)) + (1 : Int32))))), .second, .val (.long ((-(Int32.toInt64 p1)) * (100 : Int64))), .second, .val (.long ((((2 : Int64) * ((-(Int32.toInt64 p1)) * (100 : Int64))) + ((Int32.toInt64 n) * (Int32.toInt64 ((p2 &&& (32767 : Int32)) + (1 : Int32))))) / ((2 : Int64) * ((Int32.toInt64 n) * (Int32.toInt64 ((p2 &&& (32767 : Int32)) + (1 : Int32))))))), .second, .unset, .unset, .unset]) at_92 rfl ?_
      refine Walk.lload (pc' := 96) at_94 rfl ?_
      refine Walk.lconst (pc' := 97) (0 : Int64) at_96 rfl ?_
      refine Walk.lcmp (pc' := 98) at_97 ?_
      refine Walk.ifNo (pc' := 101) at_98 (XT.ll_ge_f hv) ?_
      refine Walk.lload (pc' := 103) at_101 rfl ?_
      refine Walk.lneg (pc' := 104) at_103 ?_
      refine Walk.goto (pc' := 109) at_104 ?_
      refine Walk.lstore (pc' := 111) (Ls' := #[.val (.int p0), .val (.int p1), .val (.int p2), .val (.int p3), .val (.int n), .val (.long (Int32.toInt64 ((p2 &&& (32767 : Int32)) + (1 : Int32)))), .second, .val (.long (Int32.toInt64 p1)), .second, .val (.int (2 : Int32)), .val (.long (100 : Int64)), .second, .val (.long ((Int32.toInt64 n) * (Int32.toInt64 ((p2 &&& (32767 : Int32)) + (1 : Int32))))), .second, .val (.long ((-(Int32.toInt64 p1)) * (100 : Int64))), .second, .val (.long ((((2 : Int64) * ((-(Int32.toInt64 p1)) * (100 : Int64))) + ((Int32.toInt64 n) * (Int32.toInt64 ((p2 &&& (32767 : Int32)) + (1 : Int32))))) / ((2 : Int64) * ((Int32.toInt64 n) * (Int32.toInt64 ((p2 &&& (32767 : Int32)) + (1 : Int32))))))), .second, .val (.long (-((((2 : Int64) * ((-(Int32.toInt64 p1)) * (100 : Int64))) + ((Int32.toInt64 n) * (Int32.toInt64 ((p2 &&& (32767 : Int32)) + (1 : Int32))))) / ((2 : Int64) * ((Int32.toInt64 n) * (Int32.toInt64 ((p2 &&& (32767 : Int32)) + (1 : Int32)))))))), .second, .unset]) at_109 rfl ?_
      refine Walk.iload (pc' := 113) at_111 rfl ?_
      obtain ⟨R, hR⟩ : ∃ R, R = (-((((2 : Int64) * ((-(Int32.toInt64 p1)) * (100 : Int64))) + ((Int32.toInt64 n) * (Int32.toInt64 ((p2 &&& (32767 : Int32)) + (1 : Int32))))) / ((2 : Int64) * ((Int32.toInt64 n) * (Int32.toInt64 ((p2 &&& (32767 : Int32)) + (1 : Int32))))))) := ⟨_, rfl⟩
      have D := dr_law p1 n p2 100 (-(Int32.toInt64 p1)) (by decide) hn1 R (Or.inl ⟨hv, rfl, hR⟩)
      rw [← hR]
      clear hR
      refine Walk.callS (pc' := 116) (Wd := 0) (as := [(.int n)]) (rest := []) (wd10 hw) (wd11 hw) (wd12 hw) (wd13 hw) ((c_ea hw n X).pay (wd13 hw) (wd12 hw) (by decide) (by decide)) (hlen := lenOf pd20 rfl) (hd := at_113) (hst := rfl) (hW := Nat.le_of_eq rfl) (hsz := rfl) (hc1 := Nat.le_of_ble_eq_true rfl) (hl1 := Nat.le_of_ble_eq_true rfl) (hv := Fw.upN) (kk := fun v883 h887 Ts884 Li885 q886 K888 => ?_)
      obtain ⟨⟨x877, d878, rfl, E879, G880, G881, B882⟩, rfl, rfl⟩ := q886
      show Walk _ _ _ _ _ _ _ _ _ _ _ _ _ _ 2 7 116 _ [(.ref x877)]
      refine Walk.lload (pc' := 118) at_116 rfl ?_
      refine Walk.callS (pc' := 121) (Wd := 1) (as := [(.long (Int32.toInt64 p1))]) (rest := [(.ref x877)]) (wd32 hw) (wd19 hw) (wd17 hw) (wd20 hw) ((c_vo hw (Int32.toInt64 p1) (own_i32ne p1) X).pay (wd20 hw) (wd17 hw) (by decide) (by decide)) (hlen := lenOf pd4 rfl) (hd := at_118) (hst := rfl) (hW := Nat.le_of_eq rfl) (hsz := rfl) (hc1 := Nat.le_of_ble_eq_true rfl) (hl1 := Nat.le_of_ble_eq_true rfl) (hv := Fw.upN) (kk := fun v891 h895 Ts892 Li893 q894 K896 => ?_)
      obtain ⟨⟨x889, rfl, B890⟩, rfl, rfl⟩ := q894
      show Walk _ _ _ _ _ _ _ _ _ _ _ _ _ _ 3 12 121 _ [(.ref x889), (.ref x877)]
      refine Walk.lload (pc' := 123) at_121 rfl ?_
      refine Walk.callS (pc' := 126) (Wd := 2) (as := [(.long (Int32.toInt64 ((p2 &&& (32767 : Int32)) + (1 : Int32))))]) (rest := [(.ref x889), (.ref x877)]) (wd32 hw) (wd19 hw) (wd17 hw) (wd20 hw) ((c_vo hw (Int32.toInt64 ((p2 &&& (32767 : Int32)) + (1 : Int32))) (own_i32ne _) X).pay (wd20 hw) (wd17 hw) (by decide) (by decide)) (hlen := lenOf pd4 rfl) (hd := at_123) (hst := rfl) (hW := Nat.le_of_eq rfl) (hsz := rfl) (hc1 := Nat.le_of_ble_eq_true rfl) (hl1 := Nat.le_of_ble_eq_true rfl) (hv := Fw.upN) (kk := fun v899 h903 Ts900 Li901 q902 K904 => ?_)
      obtain ⟨⟨x897, rfl, B898⟩, rfl, rfl⟩ := q902
      show Walk _ _ _ _ _ _ _ _ _ _ _ _ _ _ 4 17 126 _ [(.ref x897), (.ref x889), (.ref x877)]
      refine Walk.iload (pc' := 128) at_126 rfl ?_
      refine Walk.callV (pc' := 131) (a := x877) (Wd := 0) (as := [(.ref x889), (.ref x897), (.int (2 : Int32))]) (rest := []) (wd33 hw) (wd34 hw) (wd36 hw) (wd36 hw) (wd35 hw) ((E879.kq K896).kq K904) ((c_sc2 hw X x877 d878 x889 x897 p1 n p2 R hn1 D ((E879.kq K896).kq K904) ((G880.kq K896 (fun q => q)).kq K904 (fun q => q)) ((G881.kq K896 (fun q => q)).kq K904 (fun q => q)) ⟨((B882.1.kq K896).kq K904), ((B882.2.1.kq K896 (fun q => q)).kq K904 (fun q => q)), ((B882.2.2.kq K896 (fun q => q)).kq K904 (fun q => q))⟩ ⟨(B890.1.kq K904), (B890.2.1.kq K904 (fun q => q)), (B890.2.2.kq K904 (fun q => q))⟩ ⟨B898.1, B898.2.1, B898.2.2⟩).pay (wd37 hw) (wd12 hw) (by decide) (by decide)) (hlen := lenOf pd21 rfl) (hd := at_128) (hst := rfl) (hW := Nat.le_of_eq rfl) (hsz := rfl) (hc1 := Nat.le_of_ble_eq_true rfl) (hl1 := Nat.le_of_ble_eq_true rfl) (hv := Fw.upN) (kk := fun v907 h911 Ts908 Li909 q910 K912 => ?_)
      obtain ⟨⟨x905, rfl, B906⟩, rfl, rfl⟩ := q910
      show Walk _ _ _ _ _ _ _ _ _ _ _ _ _ _ 7 32 131 _ [(.ref x905)]
      refine Walk.astore (pc' := 133) (Ls' := #[.val (.int p0), .val (.int p1), .val (.int p2), .val (.int p3), .val (.int n), .val (.long (Int32.toInt64 ((p2 &&& (32767 : Int32)) + (1 : Int32)))), .second, .val (.long (Int32.toInt64 p1)), .second, .val (.int (2 : Int32)), .val (.long (100 : Int64)), .second, .val (.long ((Int32.toInt64 n) * (Int32.toInt64 ((p2 &&& (32767 : Int32)) + (1 : Int32))))), .second, .val (.long ((-(Int32.toInt64 p1)) * (100 : Int64))), .second, .val (.long ((((2 : Int64) * ((-(Int32.toInt64 p1)) * (100 : Int64))) + ((Int32.toInt64 n) * (Int32.toInt64 ((p2 &&& (32767 : Int32)) + (1 : Int32))))) / ((2 : Int64) * ((Int32.toInt64 n) * (Int32.toInt64 ((p2 &&& (32767 : Int32)) + (1 : Int32))))))), .second, .val (.long R), .second, .val (.ref x905)]) at_131 rfl rfl ?_
      refine Walk.aload (pc' := 135) at_133 rfl rfl ?_
      refine Walk.lload (pc' := 137) at_135 rfl ?_
      refine Walk.iload (pc' := 139) at_137 rfl ?_
      refine Walk.callS (pc' := 142) (Wd := 1) (as := [(.long R), (.int (2 : Int32))]) (rest := [(.ref x905)]) (wd109 hw) (wd61 hw) (wd17 hw) (wd62 hw) ((c_vo22 hw R D.ne X).pay (wd62 hw) (wd17 hw) (by decide) (by decide)) (hlen := lenOf pd8 rfl) (hd := at_139) (hst := rfl) (hW := Nat.le_of_eq rfl) (hsz := rfl) (hc1 := Nat.le_of_ble_eq_true rfl) (hl1 := Nat.le_of_ble_eq_true rfl) (hv := Fw.upN) (kk := fun v915 h919 Ts916 Li917 q918 K920 => ?_)
      obtain ⟨⟨x913, rfl, B914⟩, rfl, rfl⟩ := q918
      show Walk _ _ _ _ _ _ _ _ _ _ _ _ _ _ 8 37 142 _ [(.ref x913), (.ref x905)]
      refine Walk.callV (pc' := 145) (a := x905) (Wd := 0) (as := [(.ref x913)]) (rest := []) (wd110 hw) (wd111 hw) (wd113 hw) (wd113 hw) (wd112 hw) (B906.1.kq K920) ((c_eq hw x905 x913 R 2 D.ne ⟨(B906.1.kq K920), (B906.2.1.kq K920 (fun q => q)), (B906.2.2.kq K920 (fun q => q))⟩ ⟨B914.1, B914.2.1, B914.2.2⟩).pay (wd114 hw) (wd17 hw) (by decide) (by decide)) (hlen := lenOf pd22 rfl) (hd := at_142) (hst := rfl) (hW := Nat.le_of_eq rfl) (hsz := rfl) (hc1 := Nat.le_of_ble_eq_true rfl) (hl1 := Nat.le_of_ble_eq_true rfl) (hv := Fw.upN) (kk := fun v921 h925 Ts922 Li923 q924 K926 => ?_)
      obtain ⟨rfl, rfl, rfl, rfl⟩ := q924
      show Walk _ _ _ _ _ _ _ _ _ _ _ _ _ _ 8 37 145 _ [(.int (1 : Int32))]
      exact Walk.nret at_145 rfl (by simp) ⟨rfl, rfl⟩ (fun _ q => q) (Nat.le_of_ble_eq_true rfl) (Nat.le_of_ble_eq_true rfl)
    · skip
      refine Walk.callS (pc' := 71) (Wd := 0) (as := [(.long (Int32.toInt64 p1))]) (rest := []) (wd6 hw) (wd7 hw) (wd3 hw) (wd8 hw) ((c_abs hw (Int32.toInt64 p1) (Int32.toInt64 p1) (Or.inr ⟨hv, rfl⟩)).pay (wd8 hw) (wd3 hw) (by decide) (by decide)) (hlen := lenOf pd6 rfl) (hd := at_68) (hst := rfl) (hW := Nat.le_of_eq rfl) (hsz := rfl) (hc1 := Nat.le_of_ble_eq_true rfl) (hl1 := Nat.le_of_ble_eq_true rfl) (hv := Fw.upN) (kk := fun v927 h931 Ts928 Li929 q930 K932 => ?_)
      obtain ⟨rfl, rfl, rfl, rfl⟩ := q930
      show Walk _ _ _ _ _ _ _ _ _ _ _ _ _ _ 0 0 71 _ [(.long (Int32.toInt64 p1))]
      refine Walk.lload (pc' := 73) at_71 rfl ?_
      refine Walk.lmul (pc' := 74) at_73 ?_
      refine Walk.lstore (pc' := 76) (Ls' := #[.val (.int p0), .val (.int p1), .val (.int p2), .val (.int p3), .val (.int n), .val (.long (Int32.toInt64 ((p2 &&& (32767 : Int32)) + (1 : Int32)))), .second, .val (.long (Int32.toInt64 p1)), .second, .val (.int (2 : Int32)), .val (.long (100 : Int64)), .second, .val (.long ((Int32.toInt64 n) * (Int32.toInt64 ((p2 &&& (32767 : Int32)) + (1 : Int32))))), .second, .val (.long ((Int32.toInt64 p1) * (100 : Int64))), .second, .unset, .unset, .unset, .unset, .unset]) at_74 rfl ?_
      refine Walk.ldcJ (pc' := 79) (wd9 hw) at_76 ?_
      refine Walk.lload (pc' := 81) at_79 rfl ?_
      refine Walk.lmul (pc' := 82) at_81 ?_
      refine Walk.lload (pc' := 84) at_82 rfl ?_
      refine Walk.ladd (pc' := 85) at_84 ?_
      refine Walk.ldcJ (pc' := 88) (wd9 hw) at_85 ?_
      refine Walk.lload (pc' := 90) at_88 rfl ?_
      refine Walk.lmul (pc' := 91) at_90 ?_
      refine Walk.ldiv (pc' := 92) at_91 (own_2q n p2 hn1) ?_
      refine Walk.lstore (pc' := 94) (Ls' := #[.val (.int p0), .val (.int p1), .val (.int p2), .val (.int p3), .val (.int n), .val (.long (Int32.toInt64 ((p2 &&& (32767 : Int32)) + (1 : Int32)))), .second, .val (.long (Int32.toInt64 p1)), .second, .val (.int (2 : Int32)), .val (.long (100 : Int64)), .second, .val (.long ((Int32.toInt64 n) * (Int32.toInt64 ((p2 &&& (32767 : Int32)) + (1 : Int32))))), .second, .val (.long ((Int32.toInt64 p1) * (100 : Int64))), .second, .val (.long ((((2 : Int64) * ((Int32.toInt64 p1) * (100 : Int64))) + ((Int32.toInt64 n) * (Int32.toInt64 ((p2 &&& (32767 : Int32)) + (1 : Int32))))) / ((2 : Int64) * ((Int32.toInt64 n) * (Int32.toInt64 ((p2 &&& (32767 : Int32)) + (1 : Int32))))))), .second, .unset, .unset, .unset]) at_92 rfl ?_
      refine Walk.lload (pc' := 96) at_94 rfl ?_
      refine Walk.lconst (pc' := 97) (0 : Int64) at_96 rfl ?_
      refine Walk.lcmp (pc' := 98) at_97 ?_
      refine Walk.ifYes (pc' := 107) at_98 (XT.ll_ge_t hv) ?_
      refine Walk.lload (pc' := 109) at_107 rfl ?_
      refine Walk.lstore (pc' := 111) (Ls' := #[.val (.int p0), .val (.int p1), .val (.int p2), .val (.int p3), .val (.int n), .val (.long (Int32.toInt64 ((p2 &&& (32767 : Int32)) + (1 : Int32)))), .second, .val (.long (Int32.toInt64 p1)), .second, .val (.int (2 : Int32)), .val (.long (100 : Int64)), .second, .val (.long ((Int32.toInt64 n) * (Int32.toInt64 ((p2 &&& (32767 : Int32)) + (1 : Int32))))), .second, .val (.long ((Int32.toInt64 p1) * (100 : Int64))), .second, .val (.long ((((2 : Int64) * ((Int32.toInt64 p1) * (100 : Int64))) + ((Int32.toInt64 n) * (Int32.toInt64 ((p2 &&& (32767 : Int32)) + (1 : Int32))))) / ((2 : Int64) * ((Int32.toInt64 n) * (Int32.toInt64 ((p2 &&& (32767 : Int32)) + (1 : Int32))))))), .second, .val (.long ((((2 : Int64) * ((Int32.toInt64 p1) * (100 : Int64))) + ((Int32.toInt64 n) * (Int32.toInt64 ((p2 &&& (32767 : Int32)) + (1 : Int32))))) / ((2 : Int64) * ((Int32.toInt64 n) * (Int32.toInt64 ((p2 &&& (32767 : Int32)) + (1 : Int32))))))), .second, .unset]) at_109 rfl ?_
      refine Walk.iload (pc' := 113) at_111 rfl ?_
      obtain ⟨R, hR⟩ : ∃ R, R = ((((2 : Int64) * ((Int32.toInt64 p1) * (100 : Int64))) + ((Int32.toInt64 n) * (Int32.toInt64 ((p2 &&& (32767 : Int32)) + (1 : Int32))))) / ((2 : Int64) * ((Int32.toInt64 n) * (Int32.toInt64 ((p2 &&& (32767 : Int32)) + (1 : Int32)))))) := ⟨_, rfl⟩
      have D := dr_law p1 n p2 100 (Int32.toInt64 p1) (by decide) hn1 R (Or.inr ⟨hv, rfl, hR⟩)
      rw [← hR]
      clear hR
      refine Walk.callS (pc' := 116) (Wd := 0) (as := [(.int n)]) (rest := []) (wd10 hw) (wd11 hw) (wd12 hw) (wd13 hw) ((c_ea hw n X).pay (wd13 hw) (wd12 hw) (by decide) (by decide)) (hlen := lenOf pd20 rfl) (hd := at_113) (hst := rfl) (hW := Nat.le_of_eq rfl) (hsz := rfl) (hc1 := Nat.le_of_ble_eq_true rfl) (hl1 := Nat.le_of_ble_eq_true rfl) (hv := Fw.upN) (kk := fun v939 h943 Ts940 Li941 q942 K944 => ?_)
      obtain ⟨⟨x933, d934, rfl, E935, G936, G937, B938⟩, rfl, rfl⟩ := q942
      show Walk _ _ _ _ _ _ _ _ _ _ _ _ _ _ 2 7 116 _ [(.ref x933)]
      refine Walk.lload (pc' := 118) at_116 rfl ?_
      refine Walk.callS (pc' := 121) (Wd := 1) (as := [(.long (Int32.toInt64 p1))]) (rest := [(.ref x933)]) (wd32 hw) (wd19 hw) (wd17 hw) (wd20 hw) ((c_vo hw (Int32.toInt64 p1) (own_i32ne p1) X).pay (wd20 hw) (wd17 hw) (by decide) (by decide)) (hlen := lenOf pd4 rfl) (hd := at_118) (hst := rfl) (hW := Nat.le_of_eq rfl) (hsz := rfl) (hc1 := Nat.le_of_ble_eq_true rfl) (hl1 := Nat.le_of_ble_eq_true rfl) (hv := Fw.upN) (kk := fun v947 h951 Ts948 Li949 q950 K952 => ?_)
      obtain ⟨⟨x945, rfl, B946⟩, rfl, rfl⟩ := q950
      show Walk _ _ _ _ _ _ _ _ _ _ _ _ _ _ 3 12 121 _ [(.ref x945), (.ref x933)]
      refine Walk.lload (pc' := 123) at_121 rfl ?_
      refine Walk.callS (pc' := 126) (Wd := 2) (as := [(.long (Int32.toInt64 ((p2 &&& (32767 : Int32)) + (1 : Int32))))]) (rest := [(.ref x945), (.ref x933)]) (wd32 hw) (wd19 hw) (wd17 hw) (wd20 hw) ((c_vo hw (Int32.toInt64 ((p2 &&& (32767 : Int32)) + (1 : Int32))) (own_i32ne _) X).pay (wd20 hw) (wd17 hw) (by decide) (by decide)) (hlen := lenOf pd4 rfl) (hd := at_123) (hst := rfl) (hW := Nat.le_of_eq rfl) (hsz := rfl) (hc1 := Nat.le_of_ble_eq_true rfl) (hl1 := Nat.le_of_ble_eq_true rfl) (hv := Fw.upN) (kk := fun v955 h959 Ts956 Li957 q958 K960 => ?_)
      obtain ⟨⟨x953, rfl, B954⟩, rfl, rfl⟩ := q958
      show Walk _ _ _ _ _ _ _ _ _ _ _ _ _ _ 4 17 126 _ [(.ref x953), (.ref x945), (.ref x933)]
      refine Walk.iload (pc' := 128) at_126 rfl ?_
      refine Walk.callV (pc' := 131) (a := x933) (Wd := 0) (as := [(.ref x945), (.ref x953), (.int (2 : Int32))]) (rest := []) (wd33 hw) (wd34 hw) (wd36 hw) (wd36 hw) (wd35 hw) ((E935.kq K952).kq K960) ((c_sc2 hw X x933 d934 x945 x953 p1 n p2 R hn1 D ((E935.kq K952).kq K960) ((G936.kq K952 (fun q => q)).kq K960 (fun q => q)) ((G937.kq K952 (fun q => q)).kq K960 (fun q => q)) ⟨((B938.1.kq K952).kq K960), ((B938.2.1.kq K952 (fun q => q)).kq K960 (fun q => q)), ((B938.2.2.kq K952 (fun q => q)).kq K960 (fun q => q))⟩ ⟨(B946.1.kq K960), (B946.2.1.kq K960 (fun q => q)), (B946.2.2.kq K960 (fun q => q))⟩ ⟨B954.1, B954.2.1, B954.2.2⟩).pay (wd37 hw) (wd12 hw) (by decide) (by decide)) (hlen := lenOf pd21 rfl) (hd := at_128) (hst := rfl) (hW := Nat.le_of_eq rfl) (hsz := rfl) (hc1 := Nat.le_of_ble_eq_true rfl) (hl1 := Nat.le_of_ble_eq_true rfl) (hv := Fw.upN) (kk := fun v963 h967 Ts964 Li965 q966 K968 => ?_)
      obtain ⟨⟨x961, rfl, B962⟩, rfl, rfl⟩ := q966
      show Walk _ _ _ _ _ _ _ _ _ _ _ _ _ _ 7 32 131 _ [(.ref x961)]
      refine Walk.astore (pc' := 133) (Ls' := #[.val (.int p0), .val (.int p1), .val (.int p2), .val (.int p3), .val (.int n), .val (.long (Int32.toInt64 ((p2 &&& (32767 : Int32)) + (1 : Int32)))), .second, .val (.long (Int32.toInt64 p1)), .second, .val (.int (2 : Int32)), .val (.long (100 : Int64)), .second, .val (.long ((Int32.toInt64 n) * (Int32.toInt64 ((p2 &&& (32767 : Int32)) + (1 : Int32))))), .second, .val (.long ((Int32.toInt64 p1) * (100 : Int64))), .second, .val (.long R), .second, .val (.long R), .second, .val (.ref x961)]) at_131 rfl rfl ?_
      refine Walk.aload (pc' := 135) at_133 rfl rfl ?_
      refine Walk.lload (pc' := 137) at_135 rfl ?_
      refine Walk.iload (pc' := 139) at_137 rfl ?_
      refine Walk.callS (pc' := 142) (Wd := 1) (as := [(.long R), (.int (2 : Int32))]) (rest := [(.ref x961)]) (wd109 hw) (wd61 hw) (wd17 hw) (wd62 hw) ((c_vo22 hw R D.ne X).pay (wd62 hw) (wd17 hw) (by decide) (by decide)) (hlen := lenOf pd8 rfl) (hd := at_139) (hst := rfl) (hW := Nat.le_of_eq rfl) (hsz := rfl) (hc1 := Nat.le_of_ble_eq_true rfl) (hl1 := Nat.le_of_ble_eq_true rfl) (hv := Fw.upN) (kk := fun v971 h975 Ts972 Li973 q974 K976 => ?_)
      obtain ⟨⟨x969, rfl, B970⟩, rfl, rfl⟩ := q974
      show Walk _ _ _ _ _ _ _ _ _ _ _ _ _ _ 8 37 142 _ [(.ref x969), (.ref x961)]
      refine Walk.callV (pc' := 145) (a := x961) (Wd := 0) (as := [(.ref x969)]) (rest := []) (wd110 hw) (wd111 hw) (wd113 hw) (wd113 hw) (wd112 hw) (B962.1.kq K976) ((c_eq hw x961 x969 R 2 D.ne ⟨(B962.1.kq K976), (B962.2.1.kq K976 (fun q => q)), (B962.2.2.kq K976 (fun q => q))⟩ ⟨B970.1, B970.2.1, B970.2.2⟩).pay (wd114 hw) (wd17 hw) (by decide) (by decide)) (hlen := lenOf pd22 rfl) (hd := at_142) (hst := rfl) (hW := Nat.le_of_eq rfl) (hsz := rfl) (hc1 := Nat.le_of_ble_eq_true rfl) (hl1 := Nat.le_of_ble_eq_true rfl) (hv := Fw.upN) (kk := fun v977 h981 Ts978 Li979 q980 K982 => ?_)
      obtain ⟨rfl, rfl, rfl, rfl⟩ := q980
      show Walk _ _ _ _ _ _ _ _ _ _ _ _ _ _ 8 37 145 _ [(.int (1 : Int32))]
      exact Walk.nret at_145 rfl (by simp) ⟨rfl, rfl⟩ (fun _ q => q) (Nat.le_of_ble_eq_true rfl) (Nat.le_of_ble_eq_true rfl)
set_option maxRecDepth 65536 in
set_option maxHeartbeats 40000000 in
theorem comes_1 {Post : Tables → Env → Array Value → State → Outcome → State → Prop} (hpost : ∀ tb e args s v u, (limb_1_1.after args s (.returned v) u = true ∧ limb_1_2.after args s (.returned v) u = true ∧ True) → Framed s (.returned v) u (Jvm.fieldLocs frame_1_writes args s ++ Jvm.arrayLocs frame_1_arrays args s ++ Jvm.staticLocs frame_1_statics s) 24 192 → Post tb e args s (.returned v) u) :
    ArmFor flags0 classFile x code maxLocals ret World_1 tables_1 room_1 Calls_1 rest_1 Pre_1 Post := by
  intro l hfl _ _ p e ha hc hk s m args below hf hA hF happ hP
  obtain ⟨hcalls, hrest, hpre⟩ := hP
  obtain ⟨-, -, -, hnamed, -, -, -, hat⟩ := (Spec.applies_iff hf).mp happ
  obtain ⟨hg, hn⟩ := and_e (Cond.before_iff.mp (show (Jvm.Cond.and given_1 narrow_1).before args s = true from hpre))
  obtain ⟨h1, b0⟩ := and_e hg
  obtain ⟨a0, b1⟩ := and_e b0
  obtain ⟨a1, b2⟩ := and_e b1
  obtain ⟨a2, b3⟩ := and_e b2
  obtain ⟨u0, u1, u2, u3, rfl⟩ : ∃ u0 u1 u2 u3 : Value, args = #[u0, u1, u2, u3] := by
    have hs : args.size = 4 := by simpa [Cond.value, given_1] using h1
    obtain ⟨L⟩ := args
    match L, hs with
    | [u0, u1, u2, u3], _ => exact ⟨u0, u1, u2, u3, rfl⟩
  have hw := fun d (hd : d ∈ tables_1) => atoms_spec (ws := Jvm.Cond.code x code maxLocals ret :: tables_1) hat d (List.mem_cons_of_mem _ hd)
  obtain ⟨hsets, hown0⟩ := atoms_of _ (rest_1_c_eq ▸ (show rest_1_c.before _ s = true from hrest))
  obtain ⟨p0, e0⟩ := is_v a0
  obtain rfl : u0 = (.int p0) := Option.some.inj e0
  obtain ⟨p1, e1⟩ := is_v a1
  obtain rfl : u1 = (.int p1) := Option.some.inj e1
  obtain ⟨p2, e2⟩ := is_v a2
  obtain rfl : u2 = (.int p2) := Option.some.inj e2
  obtain ⟨p3, e3⟩ := is_v b3
  obtain rfl : u3 = (.int p3) := Option.some.inj e3
  obtain ⟨one, z10, zs, tp, th, hu, f, g, t1, t2, X⟩ := own_sx hsets
  obtain ⟨n, o, h1, h2, h3, v, L, Ts', Li', rfl, hq, hls, N, hws, hE⟩ := c_law hw p0 p1 p2 p3 X l tables_1 p e ha hc hk s m _ below hf ((Spec.applies_iff_loose hf).mp happ).1 ⟨rfl, State.Warmed39.refl s, rfl, ⟨Nat.le_refl _, fun _ _ q => q⟩, LS.start⟩ trivial
  obtain ⟨rfl, hT⟩ := hq
  refine ⟨n, _, h1, h2, h3, hpost _ _ _ _ _ _ ⟨Cond.after_iff.mpr rfl, Cond.after_iff.mpr (eq_i res_at (Term.int_eval (1)) rfl), trivial⟩ ⟨hE.1, hls.2.1 hT, (hE.2.2.2.sift fun y hy => Or.inr (N y hy)).mono (by decide) (by decide)⟩⟩
theorem main_1_1 : Claimed_1_1 := comes_1 fun _ _ _ _ _ _ h hF => ⟨h.1, hF⟩
theorem main_1_2 : Claimed_1_2 := comes_1 fun _ _ _ _ _ _ h hF => ⟨h.2.1, hF⟩
end Jvm.Pilot.@@N@@
namespace Jvm.Pilot.@@N@@
open Jvm Jvm.ClassFile Sem Op Lib Jvm.Free Jvm.Stand Jvm.Pilot.@@N@@.Jvm.D
/-! MADE BY PROGRAM (witnessworld.py) out of the Statement's table words and the real class files: 24 classes; the members and pool entries that the words name. The judged class is class 1, her method 1. -/
namespace start1
open Jvm.ClassFile
def u (s : String) : CpInfo := .utf8 (stringToUtf16 s)
/-- a pool by its gaps: so many unusable entries, then the entry; so many at the end -/
def gap : Nat → List CpInfo → List CpInfo
  | 0, r => r
  | n + 1, r => .unusable :: gap n r
def poolList (es : List (Nat × CpInfo)) (last : Nat) : List CpInfo := es.foldr (fun e r => gap e.1 (e.2 :: r)) (gap last [])
def pool (es : List (Nat × CpInfo)) (last : Nat) : Array CpInfo := ⟨poolList es last⟩
def fileOf (pool : Array CpInfo) (this : Nat) (attrs : Array Attribute := #[]) (ms : Array MethodInfo := #[]) (fl : Nat := 33) (sup : Nat := 0) (ifs : Array Nat := #[]) (fds : Array FieldInfo := #[]) : ClassFile where
  minorVersion := 0
  majorVersion := 65
  constantPool := pool
  accessFlags := fl
  thisClass := this
  superClass := sup
  interfaces := ifs
  fields := fds
  methods := ms
  attributes := attrs
def plain (name : String) (sup : Option ClassId) : Class where
  name := name
  kind := .ordinary
  loader := none
  accessFlags := 33
  super := sup
  interfaces := #[]
  cf := none
  fields := #[]
  methods := #[]
  instanceTypes := #[]
  staticTypes := #[]
  resolved := #[]
  callSites := []
  init := .initialized
  statics := none
  mirror := none

def pool0 : Array CpInfo := pool [(5, u "<init>"), (0, u "()V"), (1, .class_ 10), (1, u "java/lang/Object")] 113

def k0c0 : Code := { maxStack := 0, maxLocals := 1, code := object_method_1_code, exceptionTable := #[], attributes := #[] }
def k0m0 : Method := { name := "<init>", desc := "()V", sig := { parameters := [], returnType := none }, accessFlags := 1, code := some k0c0 }
/-- java/lang/Object -/
def k0 : Class := { plain "java/lang/Object" none with
  accessFlags := 33
  interfaces := #[]
  cf := some (fileOf pool0 8 #[] #[{ accessFlags := 1, nameIndex := 5, descriptorIndex := 6, attributes := #[] }] 33 0 #[] #[])
  fields := #[]
  methods := #[k0m0]
  instanceTypes := #[]
  staticTypes := #[]
  resolved := Array.replicate 124 none
  statics := none }

def pool1 : Array CpInfo := pool [(2, .class_ 4), (1, u "java/lang/Object"), (0, u "<init>"), (0, u "()V"), (0, .integer 2147483647), (0, .methodref 9 10), (0, .class_ 11), (0, .nameAndType 12 13), (0, u "java/lang/Math"), (0, u "max"), (0, u "(II)I"), (0, .long 10), (1, .long 100), (1, .methodref 9 19), (0, .nameAndType 20 21), (0, u "abs"), (0, u "(J)J"), (0, .long 2), (1, .methodref 25 26), (0, .class_ 27), (0, .nameAndType 28 29), (0, u "com/example/indexwerk/indexwerk/Weight"), (0, u "equalAmong"), (0, u "(I)Lcom/example/indexwerk/indexwerk/Weight;"), (0, .methodref 31 32), (0, .class_ 33), (0, .nameAndType 34 35), (0, u "java/math/BigDecimal"), (0, u "valueOf"), (0, u "(J)Ljava/math/BigDecimal;"), (0, .methodref 25 37), (0, .nameAndType 38 39), (0, u "shareCount"), (0, u "(Ljava/math/BigDecimal;Ljava/math/BigDecimal;I)Ljava/math/BigDecimal;"), (0, .methodref 31 41), (0, .nameAndType 34 42), (0, u "(JI)Ljava/math/BigDecimal;"), (0, .methodref 31 44), (0, .nameAndType 45 46), (0, u "equals"), (0, u "(Ljava/lang/Object;)Z"), (0, .class_ 48), (0, u "com/example/indexwerk/indexwerk/WeightEqualAmongPinLaw"), (2, u "law"), (0, u "(IIII)Z")] 3

def k1m0 : Method := { name := "<init>", desc := "()V", sig := { parameters := [], returnType := none }, accessFlags := 1, code := none }
def k1c1 : Code := { maxStack := 6, maxLocals := 21, code := code, exceptionTable := #[], attributes := #[] }
def k1m1 : Method := { name := "law", desc := "(IIII)Z", sig := { parameters := [.int, .int, .int, .int], returnType := some .boolean }, accessFlags := 9, code := some k1c1 }
/-- com/example/indexwerk/indexwerk/WeightEqualAmongPinLaw -/
def k1 : Class := { plain "com/example/indexwerk/indexwerk/WeightEqualAmongPinLaw" (some 0) with
  accessFlags := 49
  interfaces := #[]
  cf := some (fileOf pool1 47 #[] #[{ accessFlags := 1, nameIndex := 5, descriptorIndex := 6, attributes := #[] }, { accessFlags := 9, nameIndex := 51, descriptorIndex := 52, attributes := #[] }] 49 2 #[] #[])
  fields := #[]
  methods := #[k1m0, k1m1]
  instanceTypes := #[]
  staticTypes := #[]
  resolved := Array.replicate 56 none
  statics := none }

def pool2 : Array CpInfo := pool [(1, .class_ 2), (0, u "java/lang/Math"), (1, .class_ 6), (1, u "java/lang/Object"), (0, u "<init>"), (0, u "()V"), (89, .class_ 100), (1, u "java/lang/Math$RandomNumberGeneratorHolder"), (23, u "abs"), (0, u "(J)J"), (46, u "negativeZeroFloatBits"), (0, u "J"), (2, u "negativeZeroDoubleBits"), (21, u "max"), (46, u "$assertionsDisabled"), (0, u "Z"), (88, u "(II)I"), (2, u "twoToTheDoubleScaleDown"), (0, u "D"), (4, u "twoToTheDoubleScaleUp"), (9, u "E"), (3, u "PI"), (2, u "TAU"), (2, u "DEGREES_TO_RADIANS"), (0, u "RADIANS_TO_DEGREES")] 94

def k2m0 : Method := { name := "<init>", desc := "()V", sig := { parameters := [], returnType := none }, accessFlags := 2, code := none }
def k2c1 : Code := { maxStack := 4, maxLocals := 2, code := jdk_29_method_61_code, exceptionTable := #[], attributes := #[] }
def k2m1 : Method := { name := "abs", desc := "(J)J", sig := { parameters := [.long], returnType := some .long }, accessFlags := 9, code := some k2c1 }
def k2c2 : Code := { maxStack := 2, maxLocals := 2, code := jdk_29_method_65_code, exceptionTable := #[], attributes := #[] }
def k2m2 : Method := { name := "max", desc := "(II)I", sig := { parameters := [.int, .int], returnType := some .int }, accessFlags := 9, code := some k2c2 }
/-- java/lang/Math -/
def k2 : Class := { plain "java/lang/Math" (some 0) with
  accessFlags := 49
  interfaces := #[]
  cf := some (fileOf pool2 1 #[.nestMembers #[98]] #[{ accessFlags := 2, nameIndex := 7, descriptorIndex := 8, attributes := #[] }, { accessFlags := 9, nameIndex := 124, descriptorIndex := 125, attributes := #[] }, { accessFlags := 9, nameIndex := 198, descriptorIndex := 335, attributes := #[] }] 49 4 #[] #[{ accessFlags := 25, nameIndex := 354, descriptorIndex := 339, attributes := #[] }, { accessFlags := 25, nameIndex := 358, descriptorIndex := 339, attributes := #[] }, { accessFlags := 25, nameIndex := 361, descriptorIndex := 339, attributes := #[] }, { accessFlags := 26, nameIndex := 364, descriptorIndex := 339, attributes := #[] }, { accessFlags := 26, nameIndex := 365, descriptorIndex := 339, attributes := #[] }, { accessFlags := 26, nameIndex := 172, descriptorIndex := 173, attributes := #[] }, { accessFlags := 26, nameIndex := 176, descriptorIndex := 173, attributes := #[] }, { accessFlags := 8, nameIndex := 344, descriptorIndex := 339, attributes := #[] }, { accessFlags := 8, nameIndex := 338, descriptorIndex := 339, attributes := #[] }, { accessFlags := 4120, nameIndex := 245, descriptorIndex := 246, attributes := #[] }])
  fields := #[{ name := "E", type := .double, accessFlags := 25, slot := 0, constantValue := 0 }, { name := "PI", type := .double, accessFlags := 25, slot := 1, constantValue := 0 }, { name := "TAU", type := .double, accessFlags := 25, slot := 2, constantValue := 0 }, { name := "DEGREES_TO_RADIANS", type := .double, accessFlags := 26, slot := 3, constantValue := 0 }, { name := "RADIANS_TO_DEGREES", type := .double, accessFlags := 26, slot := 4, constantValue := 0 }, { name := "negativeZeroFloatBits", type := .long, accessFlags := 26, slot := 5, constantValue := 0 }, { name := "negativeZeroDoubleBits", type := .long, accessFlags := 26, slot := 6, constantValue := 0 }, { name := "twoToTheDoubleScaleUp", type := .double, accessFlags := 8, slot := 7, constantValue := 0 }, { name := "twoToTheDoubleScaleDown", type := .double, accessFlags := 8, slot := 8, constantValue := 0 }, { name := "$assertionsDisabled", type := .boolean, accessFlags := 4120, slot := 9, constantValue := 0 }]
  methods := #[k2m0, k2m1, k2m2]
  instanceTypes := #[]
  staticTypes := #[.double, .double, .double, .double, .double, .long, .long, .double, .double, .boolean]
  resolved := Array.replicate 460 none
  statics := none }

def pool3 : Array CpInfo := pool [(1, .methodref 2 3), (0, .class_ 4), (0, .nameAndType 5 6), (0, u "java/lang/Object"), (0, u "<init>"), (0, u "()V"), (0, .fieldref 8 9), (0, .class_ 10), (0, .nameAndType 11 12), (0, u "com/example/indexwerk/indexwerk/Weight"), (0, u "numerator"), (0, u "Ljava/math/BigDecimal;"), (0, .fieldref 8 14), (0, .nameAndType 15 12), (0, u "denominator"), (0, .fieldref 17 18), (0, .class_ 19), (0, .nameAndType 20 12), (0, u "java/math/BigDecimal"), (0, u "ONE"), (0, .methodref 8 22), (0, .nameAndType 5 23), (0, u "(Ljava/math/BigDecimal;Ljava/math/BigDecimal;)V"), (0, .methodref 17 25), (0, .nameAndType 26 27), (0, u "valueOf"), (0, u "(J)Ljava/math/BigDecimal;"), (0, .methodref 17 29), (0, .nameAndType 30 31), (0, u "multiply"), (0, u "(Ljava/math/BigDecimal;)Ljava/math/BigDecimal;"), (0, .fieldref 33 34), (0, .class_ 35), (0, .nameAndType 36 37), (0, u "java/math/RoundingMode"), (0, u "HALF_UP"), (0, u "Ljava/math/RoundingMode;"), (0, .methodref 17 39), (0, .nameAndType 40 41), (0, u "divide"), (0, u "(Ljava/math/BigDecimal;ILjava/math/RoundingMode;)Ljava/math/BigDecimal;"), (6, u "equalAmong"), (0, u "(I)Lcom/example/indexwerk/indexwerk/Weight;"), (0, u "shareCount"), (0, u "(Ljava/math/BigDecimal;Ljava/math/BigDecimal;I)Ljava/math/BigDecimal;")] 2

def k3c0 : Code := { maxStack := 2, maxLocals := 3, code := prog_8_method_1_code, exceptionTable := #[], attributes := #[] }
def k3m0 : Method := { name := "<init>", desc := "(Ljava/math/BigDecimal;Ljava/math/BigDecimal;)V", sig := { parameters := [(.object "java/math/BigDecimal"), (.object "java/math/BigDecimal")], returnType := none }, accessFlags := 2, code := some k3c0 }
def k3c1 : Code := { maxStack := 5, maxLocals := 1, code := prog_8_method_4_code, exceptionTable := #[], attributes := #[] }
def k3m1 : Method := { name := "equalAmong", desc := "(I)Lcom/example/indexwerk/indexwerk/Weight;", sig := { parameters := [.int], returnType := some (.object "com/example/indexwerk/indexwerk/Weight") }, accessFlags := 8, code := some k3c1 }
def k3c2 : Code := { maxStack := 4, maxLocals := 4, code := prog_8_method_5_code, exceptionTable := #[], attributes := #[] }
def k3m2 : Method := { name := "shareCount", desc := "(Ljava/math/BigDecimal;Ljava/math/BigDecimal;I)Ljava/math/BigDecimal;", sig := { parameters := [(.object "java/math/BigDecimal"), (.object "java/math/BigDecimal"), .int], returnType := some (.object "java/math/BigDecimal") }, accessFlags := 0, code := some k3c2 }
/-- com/example/indexwerk/indexwerk/Weight -/
def k3 : Class := { plain "com/example/indexwerk/indexwerk/Weight" (some 0) with
  accessFlags := 48
  interfaces := #[]
  cf := some (fileOf pool3 8 #[] #[{ accessFlags := 2, nameIndex := 5, descriptorIndex := 23, attributes := #[] }, { accessFlags := 8, nameIndex := 48, descriptorIndex := 49, attributes := #[] }, { accessFlags := 0, nameIndex := 50, descriptorIndex := 51, attributes := #[] }] 48 2 #[] #[{ accessFlags := 18, nameIndex := 11, descriptorIndex := 12, attributes := #[] }, { accessFlags := 18, nameIndex := 15, descriptorIndex := 12, attributes := #[] }])
  fields := #[{ name := "numerator", type := (.object "java/math/BigDecimal"), accessFlags := 18, slot := 0, constantValue := 0 }, { name := "denominator", type := (.object "java/math/BigDecimal"), accessFlags := 18, slot := 1, constantValue := 0 }]
  methods := #[k3m0, k3m1, k3m2]
  instanceTypes := #[(.object "java/math/BigDecimal"), (.object "java/math/BigDecimal")]
  staticTypes := #[]
  resolved := Array.replicate 54 none
  statics := none }

def pool4 : Array CpInfo := pool [(1, .class_ 2), (0, u "java/io/Serializable"), (0, .class_ 4), (0, u "java/lang/Object")] 2

/-- java/io/Serializable -/
def k4 : Class := { plain "java/io/Serializable" (some 0) with
  accessFlags := 1537
  interfaces := #[]
  cf := some (fileOf pool4 1 #[] #[] 1537 3 #[] #[])
  fields := #[]
  methods := #[]
  instanceTypes := #[]
  staticTypes := #[]
  resolved := Array.replicate 7 none
  statics := none }

def pool5 : Array CpInfo := pool [(1, .methodref 2 3), (0, .class_ 4), (0, .nameAndType 5 6), (0, u "java/lang/Object"), (0, u "<init>"), (0, u "()V"), (1, .class_ 10), (1, u "java/lang/Number"), (2, .class_ 14), (0, u "java/io/Serializable"), (0, u "serialVersionUID"), (0, u "J")] 20

def k5c0 : Code := { maxStack := 1, maxLocals := 1, code := jdk_18_method_1_code, exceptionTable := #[], attributes := #[] }
def k5m0 : Method := { name := "<init>", desc := "()V", sig := { parameters := [], returnType := none }, accessFlags := 1, code := some k5c0 }
/-- java/lang/Number -/
def k5 : Class := { plain "java/lang/Number" (some 0) with
  accessFlags := 1057
  interfaces := #[4]
  cf := some (fileOf pool5 8 #[] #[{ accessFlags := 1, nameIndex := 5, descriptorIndex := 6, attributes := #[] }] 1057 2 #[13] #[{ accessFlags := 26, nameIndex := 15, descriptorIndex := 16, attributes := #[] }])
  fields := #[{ name := "serialVersionUID", type := .long, accessFlags := 26, slot := 0, constantValue := 0 }]
  methods := #[k5m0]
  instanceTypes := #[]
  staticTypes := #[.long]
  resolved := Array.replicate 37 none
  statics := none }

def pool6 : Array CpInfo := pool [(1, .class_ 2), (0, u "java/lang/Comparable"), (0, .class_ 4), (0, u "java/lang/Object")] 7

/-- java/lang/Comparable -/
def k6 : Class := { plain "java/lang/Comparable" (some 0) with
  accessFlags := 1537
  interfaces := #[]
  cf := some (fileOf pool6 1 #[] #[] 1537 3 #[] #[])
  fields := #[]
  methods := #[]
  instanceTypes := #[]
  staticTypes := #[]
  resolved := Array.replicate 12 none
  statics := none }

def pool7 : Array CpInfo := pool [(3, .class_ 4), (0, u "java/math/BigDecimal"), (2, .class_ 8), (0, u "java/lang/Long"), (2, .methodref 12 13), (0, .class_ 14), (0, .nameAndType 15 16), (0, u "java/lang/Number"), (0, u "<init>"), (0, u "()V"), (0, .fieldref 3 18), (0, .nameAndType 19 20), (0, u "scale"), (0, u "I"), (0, .fieldref 3 22), (0, .nameAndType 23 20), (0, u "precision"), (0, .fieldref 3 25), (0, .nameAndType 26 27), (0, u "intCompact"), (0, u "J"), (0, .fieldref 3 29), (0, .nameAndType 30 31), (0, u "intVal"), (0, u "Ljava/math/BigInteger;"), (63, .fieldref 3 96), (0, .nameAndType 97 98), (0, u "LONG_TEN_POWERS_TABLE"), (0, u "[J"), (4, .fieldref 104 105), (0, .class_ 106), (0, .nameAndType 107 20), (0, u "java/math/RoundingMode"), (0, u "oldMode"), (2, u "divideAndRound"), (4, u "(J)I"), (9, .long 9223372036854775808), (61, u "ZERO"), (2, u "INFLATED_BIGINT"), (4, u "valueOf"), (7, u "multiply"), (2, u "TWO"), (29, .methodref 3 237), (0, .nameAndType 195 238), (0, u "(J)Ljava/math/BigDecimal;"), (0, .methodref 3 240), (0, .nameAndType 241 242), (0, u "zeroValueOf"), (0, u "(I)Ljava/math/BigDecimal;"), (0, .methodref 3 244), (0, .nameAndType 15 245), (0, u "(Ljava/math/BigInteger;JII)V"), (0, .fieldref 3 247), (0, .nameAndType 248 249), (0, u "ZERO_THROUGH_TEN"), (0, u "[Ljava/math/BigDecimal;"), (0, .fieldref 3 251), (0, .nameAndType 252 249), (0, u "ZERO_SCALED_BY"), (16, u "(Ljava/math/BigDecimal;)Ljava/math/BigDecimal;"), (6, .class_ 278), (1, u "java/lang/Math"), (32, .fieldref 3 312), (0, .nameAndType 313 314), (0, u "$assertionsDisabled"), (0, u "Z"), (3, .long 2), (3, u "(JJ)J"), (2, .methodref 3 326), (0, .nameAndType 327 115), (0, u "checkScale"), (0, .methodref 3 329), (0, .nameAndType 195 330), (0, u "(JI)Ljava/math/BigDecimal;"), (11, .methodref 3 343), (0, .nameAndType 203 344), (0, u "(JJI)Ljava/math/BigDecimal;"), (23, .methodref 3 369), (0, .nameAndType 370 371), (0, u "divide"), (0, u "(JIJIII)Ljava/math/BigDecimal;"), (9, .methodref 3 382), (0, .nameAndType 370 383), (0, u "(Ljava/math/BigDecimal;II)Ljava/math/BigDecimal;"), (56, .methodref 276 441), (0, .nameAndType 442 443), (0, u "abs"), (0, u "(J)J"), (34, u "ONE_TENTH"), (0, u "Ljava/math/BigDecimal;"), (5, u "TEN"), (14, .class_ 502), (1, u "java/math/BigDecimal$1"), (15, u "ONE_HALF"), (16, u "ONE"), (18, u "equals"), (0, u "(Ljava/lang/Object;)Z"), (43, .methodref 3 600), (0, .nameAndType 601 602), (0, u "longMultiplyPowerTen"), (0, u "(JI)J"), (3, .methodref 3 607), (0, .nameAndType 110 608), (0, u "(JJIII)Ljava/math/BigDecimal;"), (23, .methodref 3 633), (0, .nameAndType 634 635), (0, u "longCompareMagnitude"), (0, u "(JJ)I"), (7, u "stringCache"), (0, u "Ljava/lang/String;"), (52, .class_ 699), (1, u "java/math/BigDecimal$LongOverflow"), (8, u "FLOAT_10_POW"), (0, u "[F"), (39, u "DOUBLE_10_POW"), (0, u "[D"), (19, .class_ 772), (1, u "java/math/BigDecimal$StringBuilderHelper"), (35, u "BIG_TEN_POWERS_TABLE_MAX"), (2, u "BIG_TEN_POWERS_TABLE"), (0, u "[Ljava/math/BigInteger;"), (12, .fieldref 3 826), (0, .nameAndType 827 98), (0, u "THRESHOLDS_TABLE"), (23, .class_ 853), (1, u "java/math/BigDecimal$UnsafeHolder"), (27, .methodref 7 882), (0, .nameAndType 883 635), (0, u "compare"), (40, .methodref 3 925), (0, .nameAndType 926 927), (0, u "needIncrement"), (0, u "(JIIJJ)Z"), (5, .long 13835058055282163712), (1, .long 4611686018427387903), (1, .methodref 3 938), (0, .nameAndType 939 940), (0, u "commonNeedIncrement"), (0, u "(IIIZ)Z"), (53, .methodref 3 995), (0, .nameAndType 327 635), (59, .methodref 3 1056), (0, .nameAndType 203 322), (11, u "LONGLONG_TEN_POWERS_TABLE"), (0, u "[[J"), (112, u "BIG_TEN_POWERS_TABLE_INITLEN"), (113, .class_ 1297), (0, u "java/lang/Comparable"), (0, u "L"), (0, u "D"), (1, u "P_F"), (1, u "Q_MIN_F"), (1, u "Q_MAX_F"), (1, u "P_D"), (1, u "Q_MIN_D"), (1, u "Q_MAX_D"), (1, u "INFLATED"), (0, u "MAX_COMPACT_DIGITS"), (1, u "serialVersionUID"), (2, u "HALF_LONG_MAX_VALUE"), (0, u "HALF_LONG_MIN_VALUE"), (0, u "ROUND_UP"), (6, u "ROUND_DOWN"), (1, u "ROUND_CEILING"), (1, u "ROUND_FLOOR"), (1, u "ROUND_HALF_UP"), (1, u "ROUND_HALF_DOWN"), (1, u "ROUND_HALF_EVEN"), (1, u "ROUND_UNNECESSARY"), (1, u "DIV_NUM_BASE"), (68, u "(Ljava/math/BigDecimal;ILjava/math/RoundingMode;)Ljava/math/BigDecimal;")] 225

def k7c0 : Code := { maxStack := 3, maxLocals := 6, code := jdk_17_method_1_code, exceptionTable := #[], attributes := #[] }
def k7m0 : Method := { name := "<init>", desc := "(Ljava/math/BigInteger;JII)V", sig := { parameters := [(.object "java/math/BigInteger"), .long, .int, .int], returnType := none }, accessFlags := 0, code := some k7c0 }
def k7c1 : Code := { maxStack := 7, maxLocals := 3, code := jdk_17_method_20_code, exceptionTable := #[], attributes := #[] }
def k7m1 : Method := { name := "valueOf", desc := "(JI)Ljava/math/BigDecimal;", sig := { parameters := [.long, .int], returnType := some (.object "java/math/BigDecimal") }, accessFlags := 9, code := some k7c1 }
def k7c2 : Code := { maxStack := 7, maxLocals := 2, code := jdk_17_method_21_code, exceptionTable := #[], attributes := #[] }
def k7m2 : Method := { name := "valueOf", desc := "(J)Ljava/math/BigDecimal;", sig := { parameters := [.long], returnType := some (.object "java/math/BigDecimal") }, accessFlags := 9, code := some k7c2 }
def k7c3 : Code := { maxStack := 7, maxLocals := 1, code := jdk_17_method_24_code, exceptionTable := #[], attributes := #[] }
def k7m3 : Method := { name := "zeroValueOf", desc := "(I)Ljava/math/BigDecimal;", sig := { parameters := [.int], returnType := some (.object "java/math/BigDecimal") }, accessFlags := 8, code := some k7c3 }
def k7c4 : Code := { maxStack := 5, maxLocals := 3, code := jdk_17_method_31_code, exceptionTable := #[], attributes := #[] }
def k7m4 : Method := { name := "multiply", desc := "(Ljava/math/BigDecimal;)Ljava/math/BigDecimal;", sig := { parameters := [(.object "java/math/BigDecimal")], returnType := some (.object "java/math/BigDecimal") }, accessFlags := 1, code := some k7c4 }
def k7c5 : Code := { maxStack := 8, maxLocals := 4, code := jdk_17_method_33_code, exceptionTable := #[], attributes := #[] }
def k7m5 : Method := { name := "divide", desc := "(Ljava/math/BigDecimal;II)Ljava/math/BigDecimal;", sig := { parameters := [(.object "java/math/BigDecimal"), .int, .int], returnType := some (.object "java/math/BigDecimal") }, accessFlags := 1, code := some k7c5 }
def k7c6 : Code := { maxStack := 4, maxLocals := 4, code := jdk_17_method_34_code, exceptionTable := #[], attributes := #[] }
def k7m6 : Method := { name := "divide", desc := "(Ljava/math/BigDecimal;ILjava/math/RoundingMode;)Ljava/math/BigDecimal;", sig := { parameters := [(.object "java/math/BigDecimal"), .int, (.object "java/math/RoundingMode")], returnType := some (.object "java/math/BigDecimal") }, accessFlags := 1, code := some k7c6 }
def k7c7 : Code := { maxStack := 4, maxLocals := 7, code := jdk_17_method_72_code, exceptionTable := #[], attributes := #[] }
def k7m7 : Method := { name := "equals", desc := "(Ljava/lang/Object;)Z", sig := { parameters := [(.object "java/lang/Object")], returnType := some .boolean }, accessFlags := 1, code := some k7c7 }
def k7c8 : Code := { maxStack := 4, maxLocals := 7, code := jdk_17_method_97_code, exceptionTable := #[], attributes := #[] }
def k7m8 : Method := { name := "longMultiplyPowerTen", desc := "(JI)J", sig := { parameters := [.long, .int], returnType := some .long }, accessFlags := 10, code := some k7c8 }
def k7c9 : Code := { maxStack := 4, maxLocals := 5, code := jdk_17_method_106_code, exceptionTable := #[], attributes := #[] }
def k7m9 : Method := { name := "checkScale", desc := "(J)I", sig := { parameters := [.long], returnType := some .int }, accessFlags := 2, code := some k7c9 }
def k7c10 : Code := { maxStack := 4, maxLocals := 4, code := jdk_17_method_108_code, exceptionTable := #[], attributes := #[] }
def k7m10 : Method := { name := "longCompareMagnitude", desc := "(JJ)I", sig := { parameters := [.long, .long], returnType := some .int }, accessFlags := 10, code := some k7c10 }
def k7c11 : Code := { maxStack := 4, maxLocals := 5, code := jdk_17_method_113_code, exceptionTable := #[], attributes := #[] }
def k7m11 : Method := { name := "checkScale", desc := "(JJ)I", sig := { parameters := [.long, .long], returnType := some .int }, accessFlags := 10, code := some k7c11 }
def k7c12 : Code := { maxStack := 8, maxLocals := 13, code := jdk_17_method_119_code, exceptionTable := #[], attributes := #[] }
def k7m12 : Method := { name := "divideAndRound", desc := "(JJIII)Ljava/math/BigDecimal;", sig := { parameters := [.long, .long, .int, .int, .int], returnType := some (.object "java/math/BigDecimal") }, accessFlags := 10, code := some k7c12 }
def k7c13 : Code := { maxStack := 4, maxLocals := 4, code := jdk_17_method_121_code, exceptionTable := #[], attributes := #[] }
def k7m13 : Method := { name := "commonNeedIncrement", desc := "(IIIZ)Z", sig := { parameters := [.int, .int, .int, .boolean], returnType := some .boolean }, accessFlags := 10, code := some k7c13 }
def k7c14 : Code := { maxStack := 7, maxLocals := 9, code := jdk_17_method_122_code, exceptionTable := #[], attributes := #[] }
def k7m14 : Method := { name := "needIncrement", desc := "(JIIJJ)Z", sig := { parameters := [.long, .int, .int, .long, .long], returnType := some .boolean }, accessFlags := 10, code := some k7c14 }
def k7c15 : Code := { maxStack := 4, maxLocals := 10, code := jdk_17_method_156_code, exceptionTable := #[], attributes := #[] }
def k7m15 : Method := { name := "multiply", desc := "(JJ)J", sig := { parameters := [.long, .long], returnType := some .long }, accessFlags := 10, code := some k7c15 }
def k7c16 : Code := { maxStack := 7, maxLocals := 7, code := jdk_17_method_157_code, exceptionTable := #[], attributes := #[] }
def k7m16 : Method := { name := "multiply", desc := "(JJI)Ljava/math/BigDecimal;", sig := { parameters := [.long, .long, .int], returnType := some (.object "java/math/BigDecimal") }, accessFlags := 10, code := some k7c16 }
def k7c17 : Code := { maxStack := 9, maxLocals := 13, code := jdk_17_method_166_code, exceptionTable := #[], attributes := #[] }
def k7m17 : Method := { name := "divide", desc := "(JIJIII)Ljava/math/BigDecimal;", sig := { parameters := [.long, .int, .long, .int, .int, .int], returnType := some (.object "java/math/BigDecimal") }, accessFlags := 10, code := some k7c17 }
/-- java/math/BigDecimal -/
def k7 : Class := { plain "java/math/BigDecimal" (some 5) with
  accessFlags := 33
  interfaces := #[6]
  cf := some (fileOf pool7 3 #[.nestMembers #[500, 851, 770, 697]] #[{ accessFlags := 0, nameIndex := 15, descriptorIndex := 245, attributes := #[] }, { accessFlags := 9, nameIndex := 195, descriptorIndex := 330, attributes := #[] }, { accessFlags := 9, nameIndex := 195, descriptorIndex := 238, attributes := #[] }, { accessFlags := 8, nameIndex := 241, descriptorIndex := 242, attributes := #[] }, { accessFlags := 1, nameIndex := 203, descriptorIndex := 269, attributes := #[] }, { accessFlags := 1, nameIndex := 370, descriptorIndex := 383, attributes := #[] }, { accessFlags := 1, nameIndex := 370, descriptorIndex := 1411, attributes := #[] }, { accessFlags := 1, nameIndex := 554, descriptorIndex := 555, attributes := #[] }, { accessFlags := 10, nameIndex := 601, descriptorIndex := 602, attributes := #[] }, { accessFlags := 2, nameIndex := 327, descriptorIndex := 115, attributes := #[] }, { accessFlags := 10, nameIndex := 634, descriptorIndex := 635, attributes := #[] }, { accessFlags := 10, nameIndex := 327, descriptorIndex := 635, attributes := #[] }, { accessFlags := 10, nameIndex := 110, descriptorIndex := 608, attributes := #[] }, { accessFlags := 10, nameIndex := 939, descriptorIndex := 940, attributes := #[] }, { accessFlags := 10, nameIndex := 926, descriptorIndex := 927, attributes := #[] }, { accessFlags := 10, nameIndex := 203, descriptorIndex := 322, attributes := #[] }, { accessFlags := 10, nameIndex := 203, descriptorIndex := 344, attributes := #[] }, { accessFlags := 10, nameIndex := 370, descriptorIndex := 371, attributes := #[] }] 33 12 #[1296] #[{ accessFlags := 26, nameIndex := 1298, descriptorIndex := 1299, attributes := #[] }, { accessFlags := 26, nameIndex := 1301, descriptorIndex := 20, attributes := #[] }, { accessFlags := 26, nameIndex := 1303, descriptorIndex := 20, attributes := #[] }, { accessFlags := 26, nameIndex := 1305, descriptorIndex := 20, attributes := #[] }, { accessFlags := 26, nameIndex := 1307, descriptorIndex := 20, attributes := #[] }, { accessFlags := 26, nameIndex := 1309, descriptorIndex := 20, attributes := #[] }, { accessFlags := 26, nameIndex := 1311, descriptorIndex := 20, attributes := #[] }, { accessFlags := 18, nameIndex := 30, descriptorIndex := 31, attributes := #[] }, { accessFlags := 18, nameIndex := 19, descriptorIndex := 20, attributes := #[] }, { accessFlags := 130, nameIndex := 23, descriptorIndex := 20, attributes := #[] }, { accessFlags := 130, nameIndex := 643, descriptorIndex := 644, attributes := #[] }, { accessFlags := 24, nameIndex := 1313, descriptorIndex := 27, attributes := #[] }, { accessFlags := 26, nameIndex := 190, descriptorIndex := 31, attributes := #[] }, { accessFlags := 146, nameIndex := 26, descriptorIndex := 27, attributes := #[] }, { accessFlags := 26, nameIndex := 1314, descriptorIndex := 20, attributes := #[] }, { accessFlags := 26, nameIndex := 1316, descriptorIndex := 27, attributes := #[] }, { accessFlags := 26, nameIndex := 248, descriptorIndex := 249, attributes := #[] }, { accessFlags := 26, nameIndex := 252, descriptorIndex := 249, attributes := #[] }, { accessFlags := 26, nameIndex := 1319, descriptorIndex := 27, attributes := #[] }, { accessFlags := 26, nameIndex := 1320, descriptorIndex := 27, attributes := #[] }, { accessFlags := 25, nameIndex := 187, descriptorIndex := 479, attributes := #[] }, { accessFlags := 25, nameIndex := 535, descriptorIndex := 479, attributes := #[] }, { accessFlags := 25, nameIndex := 206, descriptorIndex := 479, attributes := #[] }, { accessFlags := 25, nameIndex := 485, descriptorIndex := 479, attributes := #[] }, { accessFlags := 26, nameIndex := 478, descriptorIndex := 479, attributes := #[] }, { accessFlags := 26, nameIndex := 518, descriptorIndex := 479, attributes := #[] }, { accessFlags := 25, nameIndex := 1321, descriptorIndex := 20, attributes := #[] }, { accessFlags := 25, nameIndex := 1328, descriptorIndex := 20, attributes := #[] }, { accessFlags := 25, nameIndex := 1330, descriptorIndex := 20, attributes := #[] }, { accessFlags := 25, nameIndex := 1332, descriptorIndex := 20, attributes := #[] }, { accessFlags := 25, nameIndex := 1334, descriptorIndex := 20, attributes := #[] }, { accessFlags := 25, nameIndex := 1336, descriptorIndex := 20, attributes := #[] }, { accessFlags := 25, nameIndex := 1338, descriptorIndex := 20, attributes := #[] }, { accessFlags := 25, nameIndex := 1340, descriptorIndex := 20, attributes := #[] }, { accessFlags := 26, nameIndex := 749, descriptorIndex := 750, attributes := #[] }, { accessFlags := 26, nameIndex := 708, descriptorIndex := 709, attributes := #[] }, { accessFlags := 26, nameIndex := 97, descriptorIndex := 98, attributes := #[] }, { accessFlags := 74, nameIndex := 811, descriptorIndex := 812, attributes := #[] }, { accessFlags := 26, nameIndex := 1182, descriptorIndex := 20, attributes := #[] }, { accessFlags := 26, nameIndex := 808, descriptorIndex := 20, attributes := #[] }, { accessFlags := 26, nameIndex := 827, descriptorIndex := 98, attributes := #[] }, { accessFlags := 26, nameIndex := 1342, descriptorIndex := 27, attributes := #[] }, { accessFlags := 26, nameIndex := 1068, descriptorIndex := 1069, attributes := #[] }, { accessFlags := 4120, nameIndex := 313, descriptorIndex := 314, attributes := #[] }])
  fields := #[{ name := "L", type := .double, accessFlags := 26, slot := 0, constantValue := 0 }, { name := "P_F", type := .int, accessFlags := 26, slot := 1, constantValue := 0 }, { name := "Q_MIN_F", type := .int, accessFlags := 26, slot := 2, constantValue := 0 }, { name := "Q_MAX_F", type := .int, accessFlags := 26, slot := 3, constantValue := 0 }, { name := "P_D", type := .int, accessFlags := 26, slot := 4, constantValue := 0 }, { name := "Q_MIN_D", type := .int, accessFlags := 26, slot := 5, constantValue := 0 }, { name := "Q_MAX_D", type := .int, accessFlags := 26, slot := 6, constantValue := 0 }, { name := "intVal", type := (.object "java/math/BigInteger"), accessFlags := 18, slot := 0, constantValue := 0 }, { name := "scale", type := .int, accessFlags := 18, slot := 1, constantValue := 0 }, { name := "precision", type := .int, accessFlags := 130, slot := 2, constantValue := 0 }, { name := "stringCache", type := (.object "java/lang/String"), accessFlags := 130, slot := 3, constantValue := 0 }, { name := "INFLATED", type := .long, accessFlags := 24, slot := 7, constantValue := 0 }, { name := "INFLATED_BIGINT", type := (.object "java/math/BigInteger"), accessFlags := 26, slot := 8, constantValue := 0 }, { name := "intCompact", type := .long, accessFlags := 146, slot := 4, constantValue := 0 }, { name := "MAX_COMPACT_DIGITS", type := .int, accessFlags := 26, slot := 9, constantValue := 0 }, { name := "serialVersionUID", type := .long, accessFlags := 26, slot := 10, constantValue := 0 }, { name := "ZERO_THROUGH_TEN", type := (.array (.object "java/math/BigDecimal")), accessFlags := 26, slot := 11, constantValue := 0 }, { name := "ZERO_SCALED_BY", type := (.array (.object "java/math/BigDecimal")), accessFlags := 26, slot := 12, constantValue := 0 }, { name := "HALF_LONG_MAX_VALUE", type := .long, accessFlags := 26, slot := 13, constantValue := 0 }, { name := "HALF_LONG_MIN_VALUE", type := .long, accessFlags := 26, slot := 14, constantValue := 0 }, { name := "ZERO", type := (.object "java/math/BigDecimal"), accessFlags := 25, slot := 15, constantValue := 0 }, { name := "ONE", type := (.object "java/math/BigDecimal"), accessFlags := 25, slot := 16, constantValue := 0 }, { name := "TWO", type := (.object "java/math/BigDecimal"), accessFlags := 25, slot := 17, constantValue := 0 }, { name := "TEN", type := (.object "java/math/BigDecimal"), accessFlags := 25, slot := 18, constantValue := 0 }, { name := "ONE_TENTH", type := (.object "java/math/BigDecimal"), accessFlags := 26, slot := 19, constantValue := 0 }, { name := "ONE_HALF", type := (.object "java/math/BigDecimal"), accessFlags := 26, slot := 20, constantValue := 0 }, { name := "ROUND_UP", type := .int, accessFlags := 25, slot := 21, constantValue := 0 }, { name := "ROUND_DOWN", type := .int, accessFlags := 25, slot := 22, constantValue := 0 }, { name := "ROUND_CEILING", type := .int, accessFlags := 25, slot := 23, constantValue := 0 }, { name := "ROUND_FLOOR", type := .int, accessFlags := 25, slot := 24, constantValue := 0 }, { name := "ROUND_HALF_UP", type := .int, accessFlags := 25, slot := 25, constantValue := 0 }, { name := "ROUND_HALF_DOWN", type := .int, accessFlags := 25, slot := 26, constantValue := 0 }, { name := "ROUND_HALF_EVEN", type := .int, accessFlags := 25, slot := 27, constantValue := 0 }, { name := "ROUND_UNNECESSARY", type := .int, accessFlags := 25, slot := 28, constantValue := 0 }, { name := "DOUBLE_10_POW", type := (.array .double), accessFlags := 26, slot := 29, constantValue := 0 }, { name := "FLOAT_10_POW", type := (.array .float), accessFlags := 26, slot := 30, constantValue := 0 }, { name := "LONG_TEN_POWERS_TABLE", type := (.array .long), accessFlags := 26, slot := 31, constantValue := 0 }, { name := "BIG_TEN_POWERS_TABLE", type := (.array (.object "java/math/BigInteger")), accessFlags := 74, slot := 32, constantValue := 0 }, { name := "BIG_TEN_POWERS_TABLE_INITLEN", type := .int, accessFlags := 26, slot := 33, constantValue := 0 }, { name := "BIG_TEN_POWERS_TABLE_MAX", type := .int, accessFlags := 26, slot := 34, constantValue := 0 }, { name := "THRESHOLDS_TABLE", type := (.array .long), accessFlags := 26, slot := 35, constantValue := 0 }, { name := "DIV_NUM_BASE", type := .long, accessFlags := 26, slot := 36, constantValue := 0 }, { name := "LONGLONG_TEN_POWERS_TABLE", type := (.array (.array .long)), accessFlags := 26, slot := 37, constantValue := 0 }, { name := "$assertionsDisabled", type := .boolean, accessFlags := 4120, slot := 38, constantValue := 0 }]
  methods := #[k7m0, k7m1, k7m2, k7m3, k7m4, k7m5, k7m6, k7m7, k7m8, k7m9, k7m10, k7m11, k7m12, k7m13, k7m14, k7m15, k7m16, k7m17]
  instanceTypes := #[(.object "java/math/BigInteger"), .int, .int, (.object "java/lang/String"), .long]
  staticTypes := #[.double, .int, .int, .int, .int, .int, .int, .long, (.object "java/math/BigInteger"), .int, .long, (.array (.object "java/math/BigDecimal")), (.array (.object "java/math/BigDecimal")), .long, .long, (.object "java/math/BigDecimal"), (.object "java/math/BigDecimal"), (.object "java/math/BigDecimal"), (.object "java/math/BigDecimal"), (.object "java/math/BigDecimal"), (.object "java/math/BigDecimal"), .int, .int, .int, .int, .int, .int, .int, .int, (.array .double), (.array .float), (.array .long), (.array (.object "java/math/BigInteger")), .int, .int, (.array .long), .long, (.array (.array .long)), .boolean]
  resolved := Array.replicate 1637 none
  statics := some 0 }

def pool8 : Array CpInfo := pool [(1, .class_ 2), (0, u "java/lang/constant/Constable"), (0, .class_ 4), (0, u "java/lang/Object")] 6

/-- java/lang/constant/Constable -/
def k8 : Class := { plain "java/lang/constant/Constable" (some 0) with
  accessFlags := 1537
  interfaces := #[]
  cf := some (fileOf pool8 1 #[] #[] 1537 3 #[] #[])
  fields := #[]
  methods := #[]
  instanceTypes := #[]
  staticTypes := #[]
  resolved := Array.replicate 11 none
  statics := none }

def pool9 : Array CpInfo := pool [(2, .class_ 4), (1, u "java/lang/Enum"), (0, u "name"), (0, u "Ljava/lang/String;"), (2, u "ordinal"), (0, u "I"), (1, .class_ 14), (1, u "java/lang/Object"), (4, u "hash"), (86, .class_ 108), (1, u "java/lang/Enum$EnumDesc"), (2, .class_ 112), (0, u "java/lang/constant/Constable"), (0, .class_ 114), (0, u "java/lang/Comparable"), (0, .class_ 116), (0, u "java/io/Serializable")] 87

/-- java/lang/Enum -/
def k9 : Class := { plain "java/lang/Enum" (some 0) with
  accessFlags := 1057
  interfaces := #[8, 6, 4]
  cf := some (fileOf pool9 2 #[.nestMembers #[106]] #[] 1057 12 #[111, 113, 115] #[{ accessFlags := 18, nameIndex := 5, descriptorIndex := 6, attributes := #[] }, { accessFlags := 18, nameIndex := 9, descriptorIndex := 10, attributes := #[] }, { accessFlags := 2, nameIndex := 19, descriptorIndex := 10, attributes := #[] }])
  fields := #[{ name := "name", type := (.object "java/lang/String"), accessFlags := 18, slot := 0, constantValue := 0 }, { name := "ordinal", type := .int, accessFlags := 18, slot := 1, constantValue := 0 }, { name := "hash", type := .int, accessFlags := 2, slot := 2, constantValue := 0 }]
  methods := #[]
  instanceTypes := #[(.object "java/lang/String"), .int, .int]
  staticTypes := #[]
  resolved := Array.replicate 204 none
  statics := none }

def pool10 : Array CpInfo := pool [(1, .class_ 2), (0, u "java/math/RoundingMode"), (2, u "UP"), (0, u "Ljava/math/RoundingMode;"), (2, u "DOWN"), (2, u "CEILING"), (2, u "FLOOR"), (2, u "HALF_UP"), (2, u "HALF_DOWN"), (2, u "HALF_EVEN"), (2, u "UNNECESSARY"), (2, u "$VALUES"), (0, u "[Ljava/math/RoundingMode;"), (6, .class_ 40), (1, u "java/lang/Enum"), (8, u "oldMode"), (0, u "I")] 43

/-- java/math/RoundingMode -/
def k10 : Class := { plain "java/math/RoundingMode" (some 9) with
  accessFlags := 16433
  interfaces := #[]
  cf := some (fileOf pool10 1 #[] #[] 16433 38 #[] #[{ accessFlags := 16409, nameIndex := 5, descriptorIndex := 6, attributes := #[] }, { accessFlags := 16409, nameIndex := 9, descriptorIndex := 6, attributes := #[] }, { accessFlags := 16409, nameIndex := 12, descriptorIndex := 6, attributes := #[] }, { accessFlags := 16409, nameIndex := 15, descriptorIndex := 6, attributes := #[] }, { accessFlags := 16409, nameIndex := 18, descriptorIndex := 6, attributes := #[] }, { accessFlags := 16409, nameIndex := 21, descriptorIndex := 6, attributes := #[] }, { accessFlags := 16409, nameIndex := 24, descriptorIndex := 6, attributes := #[] }, { accessFlags := 16409, nameIndex := 27, descriptorIndex := 6, attributes := #[] }, { accessFlags := 16, nameIndex := 49, descriptorIndex := 50, attributes := #[] }, { accessFlags := 4122, nameIndex := 30, descriptorIndex := 31, attributes := #[] }])
  fields := #[{ name := "UP", type := (.object "java/math/RoundingMode"), accessFlags := 16409, slot := 0, constantValue := 0 }, { name := "DOWN", type := (.object "java/math/RoundingMode"), accessFlags := 16409, slot := 1, constantValue := 0 }, { name := "CEILING", type := (.object "java/math/RoundingMode"), accessFlags := 16409, slot := 2, constantValue := 0 }, { name := "FLOOR", type := (.object "java/math/RoundingMode"), accessFlags := 16409, slot := 3, constantValue := 0 }, { name := "HALF_UP", type := (.object "java/math/RoundingMode"), accessFlags := 16409, slot := 4, constantValue := 0 }, { name := "HALF_DOWN", type := (.object "java/math/RoundingMode"), accessFlags := 16409, slot := 5, constantValue := 0 }, { name := "HALF_EVEN", type := (.object "java/math/RoundingMode"), accessFlags := 16409, slot := 6, constantValue := 0 }, { name := "UNNECESSARY", type := (.object "java/math/RoundingMode"), accessFlags := 16409, slot := 7, constantValue := 0 }, { name := "oldMode", type := .int, accessFlags := 16, slot := 3, constantValue := 0 }, { name := "$VALUES", type := (.array (.object "java/math/RoundingMode")), accessFlags := 4122, slot := 8, constantValue := 0 }]
  methods := #[]
  instanceTypes := #[(.object "java/lang/String"), .int, .int, .int]
  staticTypes := #[(.object "java/math/RoundingMode"), (.object "java/math/RoundingMode"), (.object "java/math/RoundingMode"), (.object "java/math/RoundingMode"), (.object "java/math/RoundingMode"), (.object "java/math/RoundingMode"), (.object "java/math/RoundingMode"), (.object "java/math/RoundingMode"), (.array (.object "java/math/RoundingMode"))]
  resolved := Array.replicate 94 none
  statics := some 1 }

def pool11 : Array CpInfo := pool [(1, .class_ 2), (0, u "java/lang/constant/ConstantDesc"), (0, .class_ 4), (0, u "java/lang/Object")] 32

/-- java/lang/constant/ConstantDesc -/
def k11 : Class := { plain "java/lang/constant/ConstantDesc" (some 0) with
  accessFlags := 1537
  interfaces := #[]
  cf := some (fileOf pool11 1 #[] #[] 1537 3 #[] #[])
  fields := #[]
  methods := #[]
  instanceTypes := #[]
  staticTypes := #[]
  resolved := Array.replicate 37 none
  statics := none }

def pool12 : Array CpInfo := pool [(1, .class_ 2), (0, u "java/lang/Long"), (232, .class_ 237), (1, u "java/lang/Long$LongCache"), (33, .class_ 272), (0, u "java/lang/Number"), (2, u "value"), (0, u "J"), (27, u "compare"), (0, u "(JJ)I"), (55, u "TYPE"), (0, u "Ljava/lang/Class;"), (0, .class_ 364), (0, u "java/lang/Comparable"), (0, .class_ 366), (0, u "java/lang/constant/Constable"), (0, .class_ 368), (0, u "java/lang/constant/ConstantDesc"), (0, u "MIN_VALUE"), (1, u "MAX_VALUE"), (4, u "SIZE"), (0, u "I"), (1, u "BYTES"), (1, u "serialVersionUID")] 142

def k12c0 : Code := { maxStack := 4, maxLocals := 4, code := jdk_35_method_42_code, exceptionTable := #[], attributes := #[] }
def k12m0 : Method := { name := "compare", desc := "(JJ)I", sig := { parameters := [.long, .long], returnType := some .int }, accessFlags := 9, code := some k12c0 }
/-- java/lang/Long -/
def k12 : Class := { plain "java/lang/Long" (some 5) with
  accessFlags := 49
  interfaces := #[6, 8, 11]
  cf := some (fileOf pool12 1 #[.nestMembers #[235]] #[{ accessFlags := 9, nameIndex := 304, descriptorIndex := 305, attributes := #[] }] 49 271 #[363, 365, 367] #[{ accessFlags := 25, nameIndex := 369, descriptorIndex := 276, attributes := #[] }, { accessFlags := 25, nameIndex := 371, descriptorIndex := 276, attributes := #[] }, { accessFlags := 25, nameIndex := 361, descriptorIndex := 362, attributes := #[] }, { accessFlags := 18, nameIndex := 275, descriptorIndex := 276, attributes := #[] }, { accessFlags := 25, nameIndex := 376, descriptorIndex := 377, attributes := #[] }, { accessFlags := 25, nameIndex := 379, descriptorIndex := 377, attributes := #[] }, { accessFlags := 26, nameIndex := 381, descriptorIndex := 276, attributes := #[] }])
  fields := #[{ name := "MIN_VALUE", type := .long, accessFlags := 25, slot := 0, constantValue := 0 }, { name := "MAX_VALUE", type := .long, accessFlags := 25, slot := 1, constantValue := 0 }, { name := "TYPE", type := (.object "java/lang/Class"), accessFlags := 25, slot := 2, constantValue := 0 }, { name := "value", type := .long, accessFlags := 18, slot := 0, constantValue := 0 }, { name := "SIZE", type := .int, accessFlags := 25, slot := 3, constantValue := 0 }, { name := "BYTES", type := .int, accessFlags := 25, slot := 4, constantValue := 0 }, { name := "serialVersionUID", type := .long, accessFlags := 26, slot := 5, constantValue := 0 }]
  methods := #[k12m0]
  instanceTypes := #[.long]
  staticTypes := #[.long, .long, (.object "java/lang/Class"), .int, .int, .long]
  resolved := Array.replicate 524 none
  statics := none }

def pool13 : Array CpInfo := pool [(4, .class_ 6), (1, u "java/lang/Number"), (16, .class_ 25), (1, u "java/math/BigInteger"), (0, u "ZERO"), (0, u "Ljava/math/BigInteger;"), (2, u "mag"), (0, u "[I"), (2, u "signum"), (0, u "I"), (59, u "bitsPerDigit"), (0, u "[J"), (9, u "digitsPerInt"), (12, u "intRadix"), (60, u "SMALL_PRIME_PRODUCT"), (79, u "ONE"), (6, u "TWO"), (43, u "$assertionsDisabled"), (0, u "Z"), (36, u "posConst"), (0, u "[Ljava/math/BigInteger;"), (4, u "negConst"), (116, .class_ 474), (1, u "java/math/BigInteger$RecursiveOp"), (106, u "NEGATIVE_ONE"), (91, u "bnExpModThreshTable"), (72, u "lowestSetBitPlusTwo"), (2, u "bitLengthPlusOne"), (2, u "bitCountPlusOne"), (6, u "LOG_TWO"), (0, u "D"), (2, u "logCache"), (0, u "[D"), (13, u "NUM_ZEROS"), (2, u "ZEROS"), (0, u "Ljava/lang/String;"), (9, u "longRadix"), (5, u "digitsPerLong"), (22, u "powerCache"), (0, u "[[Ljava/math/BigInteger;"), (45, u "firstNonzeroIntNumPlusTwo"), (38, .class_ 909), (1, u "java/math/BigInteger$UnsafeHolder"), (141, u "TEN"), (106, u "serialPersistentFields"), (0, u "[Ljava/io/ObjectStreamField;"), (0, .class_ 1161), (0, u "java/lang/Comparable"), (0, u "LONG_MASK"), (0, u "J"), (1, u "MAX_MAG_LENGTH"), (0, u "PRIME_SEARCH_BIT_LENGTH_LIMIT"), (1, u "KARATSUBA_THRESHOLD"), (1, u "TOOM_COOK_THRESHOLD"), (1, u "KARATSUBA_SQUARE_THRESHOLD"), (1, u "TOOM_COOK_SQUARE_THRESHOLD"), (1, u "BURNIKEL_ZIEGLER_THRESHOLD"), (0, u "BURNIKEL_ZIEGLER_OFFSET"), (1, u "SCHOENHAGE_BASE_CONVERSION_THRESHOLD"), (1, u "MULTIPLY_SQUARE_THRESHOLD"), (0, u "MONTGOMERY_INTRINSIC_THRESHOLD"), (1, u "SMALL_PRIME_THRESHOLD"), (1, u "DEFAULT_PRIME_CERTAINTY"), (1, u "MAX_CONSTANT"), (3, u "serialVersionUID"), (338, .class_ 1532), (0, u "java/math/BigInteger$RecursiveOp$RecursiveSquare"), (0, .class_ 1534), (0, u "java/math/BigInteger$RecursiveOp$RecursiveMultiply")] 7

/-- java/math/BigInteger -/
def k13 : Class := { plain "java/math/BigInteger" (some 5) with
  accessFlags := 33
  interfaces := #[6]
  cf := some (fileOf pool13 23 #[.nestMembers #[907, 472, 1531, 1533]] #[] 33 4 #[1160] #[{ accessFlags := 16, nameIndex := 34, descriptorIndex := 35, attributes := #[] }, { accessFlags := 16, nameIndex := 30, descriptorIndex := 31, attributes := #[] }, { accessFlags := 2, nameIndex := 752, descriptorIndex := 35, attributes := #[] }, { accessFlags := 2, nameIndex := 749, descriptorIndex := 35, attributes := #[] }, { accessFlags := 2, nameIndex := 746, descriptorIndex := 35, attributes := #[] }, { accessFlags := 2, nameIndex := 868, descriptorIndex := 35, attributes := #[] }, { accessFlags := 24, nameIndex := 1162, descriptorIndex := 1163, attributes := #[] }, { accessFlags := 26, nameIndex := 1165, descriptorIndex := 35, attributes := #[] }, { accessFlags := 26, nameIndex := 1166, descriptorIndex := 35, attributes := #[] }, { accessFlags := 26, nameIndex := 1168, descriptorIndex := 35, attributes := #[] }, { accessFlags := 26, nameIndex := 1170, descriptorIndex := 35, attributes := #[] }, { accessFlags := 26, nameIndex := 1172, descriptorIndex := 35, attributes := #[] }, { accessFlags := 26, nameIndex := 1174, descriptorIndex := 35, attributes := #[] }, { accessFlags := 24, nameIndex := 1176, descriptorIndex := 35, attributes := #[] }, { accessFlags := 24, nameIndex := 1177, descriptorIndex := 35, attributes := #[] }, { accessFlags := 26, nameIndex := 1179, descriptorIndex := 35, attributes := #[] }, { accessFlags := 26, nameIndex := 1181, descriptorIndex := 35, attributes := #[] }, { accessFlags := 26, nameIndex := 1182, descriptorIndex := 35, attributes := #[] }, { accessFlags := 10, nameIndex := 95, descriptorIndex := 96, attributes := #[] }, { accessFlags := 26, nameIndex := 1184, descriptorIndex := 35, attributes := #[] }, { accessFlags := 26, nameIndex := 1186, descriptorIndex := 35, attributes := #[] }, { accessFlags := 26, nameIndex := 180, descriptorIndex := 27, attributes := #[] }, { accessFlags := 26, nameIndex := 1188, descriptorIndex := 35, attributes := #[] }, { accessFlags := 26, nameIndex := 349, descriptorIndex := 350, attributes := #[] }, { accessFlags := 26, nameIndex := 355, descriptorIndex := 350, attributes := #[] }, { accessFlags := 74, nameIndex := 821, descriptorIndex := 822, attributes := #[] }, { accessFlags := 26, nameIndex := 763, descriptorIndex := 764, attributes := #[] }, { accessFlags := 26, nameIndex := 759, descriptorIndex := 760, attributes := #[] }, { accessFlags := 25, nameIndex := 26, descriptorIndex := 27, attributes := #[] }, { accessFlags := 25, nameIndex := 260, descriptorIndex := 27, attributes := #[] }, { accessFlags := 25, nameIndex := 267, descriptorIndex := 27, attributes := #[] }, { accessFlags := 26, nameIndex := 581, descriptorIndex := 27, attributes := #[] }, { accessFlags := 25, nameIndex := 1051, descriptorIndex := 27, attributes := #[] }, { accessFlags := 8, nameIndex := 673, descriptorIndex := 31, attributes := #[] }, { accessFlags := 10, nameIndex := 778, descriptorIndex := 35, attributes := #[] }, { accessFlags := 26, nameIndex := 781, descriptorIndex := 782, attributes := #[] }, { accessFlags := 10, nameIndex := 798, descriptorIndex := 31, attributes := #[] }, { accessFlags := 10, nameIndex := 792, descriptorIndex := 350, attributes := #[] }, { accessFlags := 10, nameIndex := 106, descriptorIndex := 31, attributes := #[] }, { accessFlags := 10, nameIndex := 119, descriptorIndex := 31, attributes := #[] }, { accessFlags := 26, nameIndex := 1192, descriptorIndex := 1163, attributes := #[] }, { accessFlags := 26, nameIndex := 1158, descriptorIndex := 1159, attributes := #[] }, { accessFlags := 4120, nameIndex := 311, descriptorIndex := 312, attributes := #[] }])
  fields := #[{ name := "signum", type := .int, accessFlags := 16, slot := 0, constantValue := 0 }, { name := "mag", type := (.array .int), accessFlags := 16, slot := 1, constantValue := 0 }, { name := "bitCountPlusOne", type := .int, accessFlags := 2, slot := 2, constantValue := 0 }, { name := "bitLengthPlusOne", type := .int, accessFlags := 2, slot := 3, constantValue := 0 }, { name := "lowestSetBitPlusTwo", type := .int, accessFlags := 2, slot := 4, constantValue := 0 }, { name := "firstNonzeroIntNumPlusTwo", type := .int, accessFlags := 2, slot := 5, constantValue := 0 }, { name := "LONG_MASK", type := .long, accessFlags := 24, slot := 0, constantValue := 0 }, { name := "MAX_MAG_LENGTH", type := .int, accessFlags := 26, slot := 1, constantValue := 0 }, { name := "PRIME_SEARCH_BIT_LENGTH_LIMIT", type := .int, accessFlags := 26, slot := 2, constantValue := 0 }, { name := "KARATSUBA_THRESHOLD", type := .int, accessFlags := 26, slot := 3, constantValue := 0 }, { name := "TOOM_COOK_THRESHOLD", type := .int, accessFlags := 26, slot := 4, constantValue := 0 }, { name := "KARATSUBA_SQUARE_THRESHOLD", type := .int, accessFlags := 26, slot := 5, constantValue := 0 }, { name := "TOOM_COOK_SQUARE_THRESHOLD", type := .int, accessFlags := 26, slot := 6, constantValue := 0 }, { name := "BURNIKEL_ZIEGLER_THRESHOLD", type := .int, accessFlags := 24, slot := 7, constantValue := 0 }, { name := "BURNIKEL_ZIEGLER_OFFSET", type := .int, accessFlags := 24, slot := 8, constantValue := 0 }, { name := "SCHOENHAGE_BASE_CONVERSION_THRESHOLD", type := .int, accessFlags := 26, slot := 9, constantValue := 0 }, { name := "MULTIPLY_SQUARE_THRESHOLD", type := .int, accessFlags := 26, slot := 10, constantValue := 0 }, { name := "MONTGOMERY_INTRINSIC_THRESHOLD", type := .int, accessFlags := 26, slot := 11, constantValue := 0 }, { name := "bitsPerDigit", type := (.array .long), accessFlags := 10, slot := 12, constantValue := 0 }, { name := "SMALL_PRIME_THRESHOLD", type := .int, accessFlags := 26, slot := 13, constantValue := 0 }, { name := "DEFAULT_PRIME_CERTAINTY", type := .int, accessFlags := 26, slot := 14, constantValue := 0 }, { name := "SMALL_PRIME_PRODUCT", type := (.object "java/math/BigInteger"), accessFlags := 26, slot := 15, constantValue := 0 }, { name := "MAX_CONSTANT", type := .int, accessFlags := 26, slot := 16, constantValue := 0 }, { name := "posConst", type := (.array (.object "java/math/BigInteger")), accessFlags := 26, slot := 17, constantValue := 0 }, { name := "negConst", type := (.array (.object "java/math/BigInteger")), accessFlags := 26, slot := 18, constantValue := 0 }, { name := "powerCache", type := (.array (.array (.object "java/math/BigInteger"))), accessFlags := 74, slot := 19, constantValue := 0 }, { name := "logCache", type := (.array .double), accessFlags := 26, slot := 20, constantValue := 0 }, { name := "LOG_TWO", type := .double, accessFlags := 26, slot := 21, constantValue := 0 }, { name := "ZERO", type := (.object "java/math/BigInteger"), accessFlags := 25, slot := 22, constantValue := 0 }, { name := "ONE", type := (.object "java/math/BigInteger"), accessFlags := 25, slot := 23, constantValue := 0 }, { name := "TWO", type := (.object "java/math/BigInteger"), accessFlags := 25, slot := 24, constantValue := 0 }, { name := "NEGATIVE_ONE", type := (.object "java/math/BigInteger"), accessFlags := 26, slot := 25, constantValue := 0 }, { name := "TEN", type := (.object "java/math/BigInteger"), accessFlags := 25, slot := 26, constantValue := 0 }, { name := "bnExpModThreshTable", type := (.array .int), accessFlags := 8, slot := 27, constantValue := 0 }, { name := "NUM_ZEROS", type := .int, accessFlags := 10, slot := 28, constantValue := 0 }, { name := "ZEROS", type := (.object "java/lang/String"), accessFlags := 26, slot := 29, constantValue := 0 }, { name := "digitsPerLong", type := (.array .int), accessFlags := 10, slot := 30, constantValue := 0 }, { name := "longRadix", type := (.array (.object "java/math/BigInteger")), accessFlags := 10, slot := 31, constantValue := 0 }, { name := "digitsPerInt", type := (.array .int), accessFlags := 10, slot := 32, constantValue := 0 }, { name := "intRadix", type := (.array .int), accessFlags := 10, slot := 33, constantValue := 0 }, { name := "serialVersionUID", type := .long, accessFlags := 26, slot := 34, constantValue := 0 }, { name := "serialPersistentFields", type := (.array (.object "java/io/ObjectStreamField")), accessFlags := 26, slot := 35, constantValue := 0 }, { name := "$assertionsDisabled", type := .boolean, accessFlags := 4120, slot := 36, constantValue := 0 }]
  methods := #[]
  instanceTypes := #[.int, (.array .int), .int, .int, .int, .int]
  staticTypes := #[.long, .int, .int, .int, .int, .int, .int, .int, .int, .int, .int, .int, (.array .long), .int, .int, (.object "java/math/BigInteger"), .int, (.array (.object "java/math/BigInteger")), (.array (.object "java/math/BigInteger")), (.array (.array (.object "java/math/BigInteger"))), (.array .double), .double, (.object "java/math/BigInteger"), (.object "java/math/BigInteger"), (.object "java/math/BigInteger"), (.object "java/math/BigInteger"), (.object "java/math/BigInteger"), (.array .int), .int, (.object "java/lang/String"), (.array .int), (.array (.object "java/math/BigInteger")), (.array .int), (.array .int), .long, (.array (.object "java/io/ObjectStreamField")), .boolean]
  resolved := Array.replicate 1542 none
  statics := some 2 }

def pool14 : Array CpInfo := pool [(2, .class_ 4), (1, u "java/lang/CharSequence"), (42, .class_ 48), (0, u "java/lang/CharSequence$1CodePointIterator"), (10, .class_ 60), (0, u "java/lang/CharSequence$1CharIterator"), (5, .class_ 67), (0, u "java/lang/Object")] 63

/-- java/lang/CharSequence -/
def k14 : Class := { plain "java/lang/CharSequence" (some 0) with
  accessFlags := 1537
  interfaces := #[]
  cf := some (fileOf pool14 2 #[.nestMembers #[47, 59]] #[] 1537 66 #[] #[])
  fields := #[]
  methods := #[]
  instanceTypes := #[]
  staticTypes := #[]
  resolved := Array.replicate 131 none
  statics := none }

def pool15 : Array CpInfo := pool [(2, .class_ 4), (1, u "java/lang/Object"), (0, u "<init>"), (0, u "()V"), (3, .class_ 12), (1, u "java/lang/String"), (0, u "value"), (0, u "[B"), (2, u "coder"), (0, u "B"), (2, u "hash"), (0, u "I"), (2, u "hashIsZero"), (0, u "Z"), (13, u "COMPACT_STRINGS"), (534, .class_ 576), (0, u "java/lang/CharSequence"), (22, u "CASE_INSENSITIVE_ORDER"), (0, u "Ljava/util/Comparator;"), (500, u "serialPersistentFields"), (0, u "[Ljava/io/ObjectStreamField;"), (0, .class_ 1104), (0, u "java/lang/String$CaseInsensitiveComparator"), (1, .class_ 1107), (0, u "java/io/Serializable"), (0, .class_ 1109), (0, u "java/lang/Comparable"), (0, .class_ 1111), (0, u "java/lang/constant/Constable"), (0, .class_ 1113), (0, u "java/lang/constant/ConstantDesc"), (2, u "serialVersionUID"), (0, u "J"), (3, u "REPL"), (0, u "C"), (2, u "LATIN1"), (1, u "UTF16")] 323

def k15m0 : Method := { name := "<init>", desc := "()V", sig := { parameters := [], returnType := none }, accessFlags := 1, code := none }
/-- java/lang/String -/
def k15 : Class := { plain "java/lang/String" (some 0) with
  accessFlags := 49
  interfaces := #[4, 6, 14, 8, 11]
  cf := some (fileOf pool15 10 #[.nestMembers #[1103]] #[{ accessFlags := 1, nameIndex := 5, descriptorIndex := 6, attributes := #[] }] 49 2 #[1106, 1108, 575, 1110, 1112] #[{ accessFlags := 18, nameIndex := 13, descriptorIndex := 14, attributes := #[] }, { accessFlags := 18, nameIndex := 17, descriptorIndex := 18, attributes := #[] }, { accessFlags := 2, nameIndex := 21, descriptorIndex := 22, attributes := #[] }, { accessFlags := 2, nameIndex := 25, descriptorIndex := 26, attributes := #[] }, { accessFlags := 26, nameIndex := 1116, descriptorIndex := 1117, attributes := #[] }, { accessFlags := 24, nameIndex := 40, descriptorIndex := 26, attributes := #[] }, { accessFlags := 26, nameIndex := 1101, descriptorIndex := 1102, attributes := #[] }, { accessFlags := 26, nameIndex := 1121, descriptorIndex := 1122, attributes := #[] }, { accessFlags := 25, nameIndex := 599, descriptorIndex := 600, attributes := #[] }, { accessFlags := 24, nameIndex := 1125, descriptorIndex := 18, attributes := #[] }, { accessFlags := 24, nameIndex := 1127, descriptorIndex := 18, attributes := #[] }])
  fields := #[{ name := "value", type := (.array .byte), accessFlags := 18, slot := 0, constantValue := 0 }, { name := "coder", type := .byte, accessFlags := 18, slot := 1, constantValue := 0 }, { name := "hash", type := .int, accessFlags := 2, slot := 2, constantValue := 0 }, { name := "hashIsZero", type := .boolean, accessFlags := 2, slot := 3, constantValue := 0 }, { name := "serialVersionUID", type := .long, accessFlags := 26, slot := 0, constantValue := 0 }, { name := "COMPACT_STRINGS", type := .boolean, accessFlags := 24, slot := 1, constantValue := 0 }, { name := "serialPersistentFields", type := (.array (.object "java/io/ObjectStreamField")), accessFlags := 26, slot := 2, constantValue := 0 }, { name := "REPL", type := .char, accessFlags := 26, slot := 3, constantValue := 0 }, { name := "CASE_INSENSITIVE_ORDER", type := (.object "java/util/Comparator"), accessFlags := 25, slot := 4, constantValue := 0 }, { name := "LATIN1", type := .byte, accessFlags := 24, slot := 5, constantValue := 0 }, { name := "UTF16", type := .byte, accessFlags := 24, slot := 6, constantValue := 0 }]
  methods := #[k15m0]
  instanceTypes := #[(.array .byte), .byte, .int, .boolean]
  staticTypes := #[.long, .boolean, (.array (.object "java/io/ObjectStreamField")), .char, (.object "java/util/Comparator"), .byte, .byte]
  resolved := Array.replicate 1451 none
  statics := none }

def pool16 : Array CpInfo := pool [(1, u "java/lang/Cloneable"), (0, .class_ 1), (0, u "java/lang/Object"), (0, .class_ 3)] 3

/-- java/lang/Cloneable -/
def k16 : Class := { plain "java/lang/Cloneable" (some 0) with
  accessFlags := 1537
  interfaces := #[]
  cf := some (fileOf pool16 2 #[] #[] 1537 4 #[] #[])
  fields := #[]
  methods := #[]
  instanceTypes := #[]
  staticTypes := #[]
  resolved := Array.replicate 8 none
  statics := none }

/-- the primitive byte -/
def k17 : Class := { plain "byte" none with kind := .primitive 'B', accessFlags := 0x411 }
/-- [B -/
def k18 : Class := { plain "[B" (some 0) with kind := .array 17 .byte, interfaces := #[16, 4], accessFlags := 1041 }

/-- the primitive int -/
def k19 : Class := { plain "int" none with kind := .primitive 'I', accessFlags := 0x411 }
/-- [I -/
def k20 : Class := { plain "[I" (some 0) with kind := .array 19 .int, interfaces := #[16, 4], accessFlags := 1041 }

/-- the primitive long -/
def k21 : Class := { plain "long" none with kind := .primitive 'J', accessFlags := 0x411 }
/-- [J -/
def k22 : Class := { plain "[J" (some 0) with kind := .array 21 .long, interfaces := #[16, 4], accessFlags := 1041 }

/-- [Ljava/math/BigDecimal; -/
def k23 : Class := { plain "[Ljava/math/BigDecimal;" (some 0) with kind := .array 7 (.object "java/math/BigDecimal"), interfaces := #[16, 4], accessFlags := 1041 }

def heap : Heap := #[{ cls := 7, slots := #[.double 0, .int 0, .int 0, .int 0, .int 0, .int 0, .int 0, .long 0, .null, .int 0, .long 0, .ref 3, .ref 4, .long 0, .long 0, .ref 27, .ref 28, .ref 29, .ref 37, .null, .null, .int 0, .int 0, .int 0, .int 0, .int 0, .int 0, .int 0, .int 0, .null, .null, .ref 55, .null, .int 0, .int 0, .ref 56, .long 0, .null, .int 1], vm := .statics 7 },
  { cls := 10, slots := #[.null, .null, .null, .null, .ref 54, .null, .null, .null, .null], vm := .statics 10 },
  { cls := 13, slots := #[.long 0, .int 0, .int 0, .int 0, .int 0, .int 0, .int 0, .int 0, .int 0, .int 0, .int 0, .int 0, .null, .int 0, .int 0, .null, .int 0, .null, .null, .null, .null, .double 0, .ref 16, .ref 17, .ref 18, .null, .ref 26, .null, .int 0, .null, .null, .null, .null, .null, .long 0, .null, .int 0], vm := .statics 13 },
  { cls := 23, slots := #[.ref 27, .ref 28, .ref 29, .ref 30, .ref 31, .ref 32, .ref 33, .ref 34, .ref 35, .ref 36, .ref 37], vm := .none },
  { cls := 23, slots := #[.ref 27, .ref 38, .ref 39, .ref 40, .ref 41, .ref 42, .ref 43, .ref 44, .ref 45, .ref 46, .ref 47, .ref 48, .ref 49, .ref 50, .ref 51, .ref 52], vm := .none },
  { cls := 20, slots := #[], vm := .none },
  { cls := 20, slots := #[.int 1], vm := .none },
  { cls := 20, slots := #[.int 2], vm := .none },
  { cls := 20, slots := #[.int 3], vm := .none },
  { cls := 20, slots := #[.int 4], vm := .none },
  { cls := 20, slots := #[.int 5], vm := .none },
  { cls := 20, slots := #[.int 6], vm := .none },
  { cls := 20, slots := #[.int 7], vm := .none },
  { cls := 20, slots := #[.int 8], vm := .none },
  { cls := 20, slots := #[.int 9], vm := .none },
  { cls := 20, slots := #[.int 10], vm := .none },
  { cls := 13, slots := #[.int 0, .ref 5, .int 0, .int 0, .int 0, .int 0], vm := .none },
  { cls := 13, slots := #[.int 1, .ref 6, .int 0, .int 0, .int 0, .int 0], vm := .none },
  { cls := 13, slots := #[.int 1, .ref 7, .int 0, .int 0, .int 0, .int 0], vm := .none },
  { cls := 13, slots := #[.int 1, .ref 8, .int 0, .int 0, .int 0, .int 0], vm := .none },
  { cls := 13, slots := #[.int 1, .ref 9, .int 0, .int 0, .int 0, .int 0], vm := .none },
  { cls := 13, slots := #[.int 1, .ref 10, .int 0, .int 0, .int 0, .int 0], vm := .none },
  { cls := 13, slots := #[.int 1, .ref 11, .int 0, .int 0, .int 0, .int 0], vm := .none },
  { cls := 13, slots := #[.int 1, .ref 12, .int 0, .int 0, .int 0, .int 0], vm := .none },
  { cls := 13, slots := #[.int 1, .ref 13, .int 0, .int 0, .int 0, .int 0], vm := .none },
  { cls := 13, slots := #[.int 1, .ref 14, .int 0, .int 0, .int 0, .int 0], vm := .none },
  { cls := 13, slots := #[.int 1, .ref 15, .int 0, .int 0, .int 0, .int 0], vm := .none },
  { cls := 7, slots := #[.ref 16, .int 0, .int 0, .null, .long 0], vm := .none },
  { cls := 7, slots := #[.ref 17, .int 0, .int 0, .null, .long 1], vm := .none },
  { cls := 7, slots := #[.ref 18, .int 0, .int 0, .null, .long 2], vm := .none },
  { cls := 7, slots := #[.ref 19, .int 0, .int 0, .null, .long 3], vm := .none },
  { cls := 7, slots := #[.ref 20, .int 0, .int 0, .null, .long 4], vm := .none },
  { cls := 7, slots := #[.ref 21, .int 0, .int 0, .null, .long 5], vm := .none },
  { cls := 7, slots := #[.ref 22, .int 0, .int 0, .null, .long 6], vm := .none },
  { cls := 7, slots := #[.ref 23, .int 0, .int 0, .null, .long 7], vm := .none },
  { cls := 7, slots := #[.ref 24, .int 0, .int 0, .null, .long 8], vm := .none },
  { cls := 7, slots := #[.ref 25, .int 0, .int 0, .null, .long 9], vm := .none },
  { cls := 7, slots := #[.ref 26, .int 0, .int 0, .null, .long 10], vm := .none },
  { cls := 7, slots := #[.ref 16, .int 1, .int 0, .null, .long 0], vm := .none },
  { cls := 7, slots := #[.ref 16, .int 2, .int 0, .null, .long 0], vm := .none },
  { cls := 7, slots := #[.ref 16, .int 3, .int 0, .null, .long 0], vm := .none },
  { cls := 7, slots := #[.ref 16, .int 4, .int 0, .null, .long 0], vm := .none },
  { cls := 7, slots := #[.ref 16, .int 5, .int 0, .null, .long 0], vm := .none },
  { cls := 7, slots := #[.ref 16, .int 6, .int 0, .null, .long 0], vm := .none },
  { cls := 7, slots := #[.ref 16, .int 7, .int 0, .null, .long 0], vm := .none },
  { cls := 7, slots := #[.ref 16, .int 8, .int 0, .null, .long 0], vm := .none },
  { cls := 7, slots := #[.ref 16, .int 9, .int 0, .null, .long 0], vm := .none },
  { cls := 7, slots := #[.ref 16, .int 10, .int 0, .null, .long 0], vm := .none },
  { cls := 7, slots := #[.ref 16, .int 11, .int 0, .null, .long 0], vm := .none },
  { cls := 7, slots := #[.ref 16, .int 12, .int 0, .null, .long 0], vm := .none },
  { cls := 7, slots := #[.ref 16, .int 13, .int 0, .null, .long 0], vm := .none },
  { cls := 7, slots := #[.ref 16, .int 14, .int 0, .null, .long 0], vm := .none },
  { cls := 7, slots := #[.ref 16, .int 15, .int 0, .null, .long 0], vm := .none },
  { cls := 15, slots := #[.null, .int 0, .int 0, .int 0], vm := .none },
  { cls := 10, slots := #[.ref 53, .int 4, .int 0, .int 4], vm := .none },
  { cls := 22, slots := #[.long 1, .long 10, .long 100, .long 1000, .long 10000, .long 100000, .long 1000000, .long 10000000, .long 100000000, .long 1000000000, .long 10000000000, .long 100000000000, .long 1000000000000, .long 10000000000000, .long 100000000000000, .long 1000000000000000, .long 10000000000000000, .long 100000000000000000, .long 1000000000000000000], vm := .none },
  { cls := 22, slots := #[.long 9223372036854775807, .long 922337203685477580, .long 92233720368547758, .long 9223372036854775, .long 922337203685477, .long 92233720368547, .long 9223372036854, .long 922337203685, .long 92233720368, .long 9223372036, .long 922337203, .long 92233720, .long 9223372, .long 922337, .long 92233, .long 9223, .long 922, .long 92, .long 9], vm := .none }]
def classes : Array Class := #[k0, k1, k2, k3, k4, k5, k6, k7, k8, k9, k10, k11, k12, k13, k14, k15, k16, k17, k18, k19, k20, k21, k22, k23]
def interned : List (Array UInt16 × Addr) := []
def slotsUsed : Nat := 364
def theMethod : MethodId := ⟨1, 1⟩
def args0 : Array Value := #[.int 5, .int 7, .int 2, .int 1]
def aboutOver (below : List Frame) : State where
  vm := { classes := classes, interned := interned.toArray }
  heap := heap
  slotsUsed := slotsUsed
  threads := #[{ frames := .invoking theMethod args0 :: below }]
def below0 : List Frame := [.native { method := ⟨0, 0⟩, args := #[] }]
def about1 : State := aboutOver below0
def p0 : Program := .bare "" "" ""
def e0 : Env := launch0.env 0 0 0
theorem w_frames : about1.frames = Frame.invoking theMethod args0 :: below0 := rfl
set_option maxRecDepth 65536 in
theorem w_args : argsFit about1.vm theMethod args0 = true := by decide +kernel
set_option maxRecDepth 65536 in
theorem w_heap : heapFits about1 = true := by decide +kernel
set_option maxRecDepth 65536 in
theorem w_runnable : about1.curStatus? = some .runnable := by decide +kernel
set_option maxRecDepth 65536 in
theorem w_alone : about1.alone = true := by decide +kernel
set_option maxRecDepth 65536 in
theorem w_named : about1.methodNamed? x = some theMethod := by decide +kernel
set_option maxRecDepth 65536 in
theorem w_hears : about1.hears theMethod below0 = true := by decide +kernel
set_option maxRecDepth 65536 in
theorem w_ripe : about1.ripe theMethod args0 below0 = true := by decide +kernel
theorem w_running : about1.status = .running := rfl
set_option maxRecDepth 65536 in
theorem w_room : about1.hasRoom e0.platform room_1 = true :=
  launch0.hasRoom_least _ room_1 (by decide +kernel) (by decide +kernel) (by decide +kernel) (by decide +kernel) (by decide +kernel) (by decide +kernel)
theorem allAtoms_all (ts : List Jvm.Cond) (a : Array Jvm.Value) (st : Jvm.State) : (allAtoms ts).before a st = ts.all (fun c => c.before a st) := by
  induction ts with
  | nil => rfl
  | cons c t ih =>
    show (Jvm.Cond.and c (allAtoms t)).before a st = _
    rw [Jvm.Cond.before_and, ih, List.all_cons]
def words1 : List Jvm.Cond := Jvm.Cond.code x code maxLocals ret :: tables_1
/-- a 'code' word, met by the world's own term for the bytes: nothing is compared byte by byte -/
theorem code_word {y : MethodName} {bytes : ByteArray} {mx : Nat} {rt : Option FieldType} {a : Array Value} {s : State} {m : MethodId} {meth : Method} {c : Code} (h1 : s.methodNamed? y = some m) (h2 : s.vm.method? m = some meth) (h3 : meth.code = some c) (h4 : c.code = bytes)
    (h5 : (c.maxLocals == mx && c.exceptionTable.isEmpty && decide (c.maxStack ≤ mostOperands) && decide (meth.sig.returnType = rt) && !meth.locks && decide (parseMethodDescriptor y.desc = some meth.sig)) = true) : (Jvm.Cond.code y bytes mx rt).before a s = true := by
  simp only [Bool.and_eq_true, beq_iff_eq, Bool.not_eq_true', decide_eq_true_eq] at h5
  obtain ⟨⟨⟨⟨⟨g1, g2⟩, g3⟩, g4⟩, g5⟩, g6⟩ := h5
  simp [Cond.before, Cond.holds, Cond.value, h1, h2, h3, h4, g1, g2, g3, g4, g5, g6]
def isCode : Jvm.Cond → Bool
  | .code _ _ _ _ => true
  | _ => false
theorem all_split {L : List Jvm.Cond} {P : Jvm.Cond → Bool} (h1 : L.all (fun c => isCode c || P c) = true) (h2 : ∀ c ∈ L.filter isCode, P c = true) : L.all P = true := by
  refine List.all_eq_true.mpr fun c hc => ?_
  have h := List.all_eq_true.mp h1 c hc
  rcases Bool.eq_false_or_eq_true (isCode c) with hi | hi
  · exact h2 c (List.mem_filter.mpr ⟨hc, hi⟩)
  · simpa [hi] using h
set_option maxRecDepth 65536 in
theorem w_c0 : (Jvm.Cond.code x code maxLocals ret).before args0 about1 = true := code_word (m := ⟨1, 1⟩) (meth := k1m1) (c := k1c1) (by decide +kernel) rfl rfl rfl (by decide +kernel)
set_option maxRecDepth 65536 in
theorem w_c1 : (Jvm.Cond.code ({ cls := "java/lang/Math", name := "max", desc := "(II)I" } : Jvm.MethodName) jdk_29_method_65_code (2 : Nat) (Option.some Jvm.ClassFile.FieldType.int)).before args0 about1 = true := code_word (m := ⟨2, 2⟩) (meth := k2m2) (c := k2c2) (by decide +kernel) rfl rfl rfl (by decide +kernel)
set_option maxRecDepth 65536 in
theorem w_c2 : (Jvm.Cond.code ({ cls := "java/lang/Math", name := "abs", desc := "(J)J" } : Jvm.MethodName) jdk_29_method_61_code (2 : Nat) (Option.some Jvm.ClassFile.FieldType.long)).before args0 about1 = true := code_word (m := ⟨2, 1⟩) (meth := k2m1) (c := k2c1) (by decide +kernel) rfl rfl rfl (by decide +kernel)
set_option maxRecDepth 65536 in
theorem w_c3 : (Jvm.Cond.code ({ cls := "com/example/indexwerk/indexwerk/Weight", name := "equalAmong", desc := "(I)Lcom/example/indexwerk/indexwerk/Weight;" } : Jvm.MethodName) prog_8_method_4_code (1 : Nat) (Option.some (Jvm.ClassFile.FieldType.object "com/example/indexwerk/indexwerk/Weight"))).before args0 about1 = true := code_word (m := ⟨3, 1⟩) (meth := k3m1) (c := k3c1) (by decide +kernel) rfl rfl rfl (by decide +kernel)
set_option maxRecDepth 65536 in
theorem w_c4 : (Jvm.Cond.code ({ cls := "java/math/BigDecimal", name := "valueOf", desc := "(J)Ljava/math/BigDecimal;" } : Jvm.MethodName) jdk_17_method_21_code (2 : Nat) (Option.some (Jvm.ClassFile.FieldType.object "java/math/BigDecimal"))).before args0 about1 = true := code_word (m := ⟨7, 2⟩) (meth := k7m2) (c := k7c2) (by decide +kernel) rfl rfl rfl (by decide +kernel)
set_option maxRecDepth 65536 in
theorem w_c5 : (Jvm.Cond.code ({ cls := "com/example/indexwerk/indexwerk/Weight", name := "<init>", desc := "(Ljava/math/BigDecimal;Ljava/math/BigDecimal;)V" } : Jvm.MethodName) prog_8_method_1_code (3 : Nat) (Option.none : Option Jvm.ClassFile.FieldType)).before args0 about1 = true := code_word (m := ⟨3, 0⟩) (meth := k3m0) (c := k3c0) (by decide +kernel) rfl rfl rfl (by decide +kernel)
set_option maxRecDepth 65536 in
theorem w_c6 : (Jvm.Cond.code ({ cls := "java/lang/Object", name := "<init>", desc := "()V" } : Jvm.MethodName) object_method_1_code (1 : Nat) (Option.none : Option Jvm.ClassFile.FieldType)).before args0 about1 = true := code_word (m := ⟨0, 0⟩) (meth := k0m0) (c := k0c0) (by decide +kernel) rfl rfl rfl (by decide +kernel)
set_option maxRecDepth 65536 in
theorem w_c7 : (Jvm.Cond.code ({ cls := "com/example/indexwerk/indexwerk/Weight", name := "shareCount", desc := "(Ljava/math/BigDecimal;Ljava/math/BigDecimal;I)Ljava/math/BigDecimal;" } : Jvm.MethodName) prog_8_method_5_code (4 : Nat) (Option.some (Jvm.ClassFile.FieldType.object "java/math/BigDecimal"))).before args0 about1 = true := code_word (m := ⟨3, 2⟩) (meth := k3m2) (c := k3c2) (by decide +kernel) rfl rfl rfl (by decide +kernel)
set_option maxRecDepth 65536 in
theorem w_c8 : (Jvm.Cond.code ({ cls := "java/math/BigDecimal", name := "multiply", desc := "(Ljava/math/BigDecimal;)Ljava/math/BigDecimal;" } : Jvm.MethodName) jdk_17_method_31_code (3 : Nat) (Option.some (Jvm.ClassFile.FieldType.object "java/math/BigDecimal"))).before args0 about1 = true := code_word (m := ⟨7, 4⟩) (meth := k7m4) (c := k7c4) (by decide +kernel) rfl rfl rfl (by decide +kernel)
set_option maxRecDepth 65536 in
theorem w_c9 : (Jvm.Cond.code ({ cls := "java/math/BigDecimal", name := "checkScale", desc := "(J)I" } : Jvm.MethodName) jdk_17_method_106_code (5 : Nat) (Option.some Jvm.ClassFile.FieldType.int)).before args0 about1 = true := code_word (m := ⟨7, 9⟩) (meth := k7m9) (c := k7c9) (by decide +kernel) rfl rfl rfl (by decide +kernel)
set_option maxRecDepth 65536 in
theorem w_c10 : (Jvm.Cond.code ({ cls := "java/math/BigDecimal", name := "multiply", desc := "(JJI)Ljava/math/BigDecimal;" } : Jvm.MethodName) jdk_17_method_157_code (7 : Nat) (Option.some (Jvm.ClassFile.FieldType.object "java/math/BigDecimal"))).before args0 about1 = true := code_word (m := ⟨7, 16⟩) (meth := k7m16) (c := k7c16) (by decide +kernel) rfl rfl rfl (by decide +kernel)
set_option maxRecDepth 65536 in
theorem w_c11 : (Jvm.Cond.code ({ cls := "java/math/BigDecimal", name := "multiply", desc := "(JJ)J" } : Jvm.MethodName) jdk_17_method_156_code (10 : Nat) (Option.some Jvm.ClassFile.FieldType.long)).before args0 about1 = true := code_word (m := ⟨7, 15⟩) (meth := k7m15) (c := k7c15) (by decide +kernel) rfl rfl rfl (by decide +kernel)
set_option maxRecDepth 65536 in
theorem w_c12 : (Jvm.Cond.code ({ cls := "java/math/BigDecimal", name := "valueOf", desc := "(JI)Ljava/math/BigDecimal;" } : Jvm.MethodName) jdk_17_method_20_code (3 : Nat) (Option.some (Jvm.ClassFile.FieldType.object "java/math/BigDecimal"))).before args0 about1 = true := code_word (m := ⟨7, 1⟩) (meth := k7m1) (c := k7c1) (by decide +kernel) rfl rfl rfl (by decide +kernel)
set_option maxRecDepth 65536 in
theorem w_c13 : (Jvm.Cond.code ({ cls := "java/math/BigDecimal", name := "divide", desc := "(Ljava/math/BigDecimal;ILjava/math/RoundingMode;)Ljava/math/BigDecimal;" } : Jvm.MethodName) jdk_17_method_34_code (4 : Nat) (Option.some (Jvm.ClassFile.FieldType.object "java/math/BigDecimal"))).before args0 about1 = true := code_word (m := ⟨7, 6⟩) (meth := k7m6) (c := k7c6) (by decide +kernel) rfl rfl rfl (by decide +kernel)
set_option maxRecDepth 65536 in
theorem w_c14 : (Jvm.Cond.code ({ cls := "java/math/BigDecimal", name := "divide", desc := "(Ljava/math/BigDecimal;II)Ljava/math/BigDecimal;" } : Jvm.MethodName) jdk_17_method_33_code (4 : Nat) (Option.some (Jvm.ClassFile.FieldType.object "java/math/BigDecimal"))).before args0 about1 = true := code_word (m := ⟨7, 5⟩) (meth := k7m5) (c := k7c5) (by decide +kernel) rfl rfl rfl (by decide +kernel)
set_option maxRecDepth 65536 in
theorem w_c15 : (Jvm.Cond.code ({ cls := "java/math/BigDecimal", name := "divide", desc := "(JIJIII)Ljava/math/BigDecimal;" } : Jvm.MethodName) jdk_17_method_166_code (13 : Nat) (Option.some (Jvm.ClassFile.FieldType.object "java/math/BigDecimal"))).before args0 about1 = true := code_word (m := ⟨7, 17⟩) (meth := k7m17) (c := k7c17) (by decide +kernel) rfl rfl rfl (by decide +kernel)
set_option maxRecDepth 65536 in
theorem w_c16 : (Jvm.Cond.code ({ cls := "java/math/BigDecimal", name := "checkScale", desc := "(JJ)I" } : Jvm.MethodName) jdk_17_method_113_code (5 : Nat) (Option.some Jvm.ClassFile.FieldType.int)).before args0 about1 = true := code_word (m := ⟨7, 11⟩) (meth := k7m11) (c := k7c11) (by decide +kernel) rfl rfl rfl (by decide +kernel)
set_option maxRecDepth 65536 in
theorem w_c17 : (Jvm.Cond.code ({ cls := "java/math/BigDecimal", name := "longMultiplyPowerTen", desc := "(JI)J" } : Jvm.MethodName) jdk_17_method_97_code (7 : Nat) (Option.some Jvm.ClassFile.FieldType.long)).before args0 about1 = true := code_word (m := ⟨7, 8⟩) (meth := k7m8) (c := k7c8) (by decide +kernel) rfl rfl rfl (by decide +kernel)
set_option maxRecDepth 65536 in
theorem w_c18 : (Jvm.Cond.code ({ cls := "java/math/BigDecimal", name := "divideAndRound", desc := "(JJIII)Ljava/math/BigDecimal;" } : Jvm.MethodName) jdk_17_method_119_code (13 : Nat) (Option.some (Jvm.ClassFile.FieldType.object "java/math/BigDecimal"))).before args0 about1 = true := code_word (m := ⟨7, 12⟩) (meth := k7m12) (c := k7c12) (by decide +kernel) rfl rfl rfl (by decide +kernel)
set_option maxRecDepth 65536 in
theorem w_c19 : (Jvm.Cond.code ({ cls := "java/math/BigDecimal", name := "<init>", desc := "(Ljava/math/BigInteger;JII)V" } : Jvm.MethodName) jdk_17_method_1_code (6 : Nat) (Option.none : Option Jvm.ClassFile.FieldType)).before args0 about1 = true := code_word (m := ⟨7, 0⟩) (meth := k7m0) (c := k7c0) (by decide +kernel) rfl rfl rfl (by decide +kernel)
set_option maxRecDepth 65536 in
theorem w_c20 : (Jvm.Cond.code ({ cls := "java/lang/Number", name := "<init>", desc := "()V" } : Jvm.MethodName) jdk_18_method_1_code (1 : Nat) (Option.none : Option Jvm.ClassFile.FieldType)).before args0 about1 = true := code_word (m := ⟨5, 0⟩) (meth := k5m0) (c := k5c0) (by decide +kernel) rfl rfl rfl (by decide +kernel)
set_option maxRecDepth 65536 in
theorem w_c21 : (Jvm.Cond.code ({ cls := "java/math/BigDecimal", name := "equals", desc := "(Ljava/lang/Object;)Z" } : Jvm.MethodName) jdk_17_method_72_code (7 : Nat) (Option.some Jvm.ClassFile.FieldType.boolean)).before args0 about1 = true := code_word (m := ⟨7, 7⟩) (meth := k7m7) (c := k7c7) (by decide +kernel) rfl rfl rfl (by decide +kernel)
set_option maxRecDepth 65536 in
theorem w_c22 : (Jvm.Cond.code ({ cls := "java/math/BigDecimal", name := "needIncrement", desc := "(JIIJJ)Z" } : Jvm.MethodName) jdk_17_method_122_code (9 : Nat) (Option.some Jvm.ClassFile.FieldType.boolean)).before args0 about1 = true := code_word (m := ⟨7, 14⟩) (meth := k7m14) (c := k7c14) (by decide +kernel) rfl rfl rfl (by decide +kernel)
set_option maxRecDepth 65536 in
theorem w_c23 : (Jvm.Cond.code ({ cls := "java/math/BigDecimal", name := "longCompareMagnitude", desc := "(JJ)I" } : Jvm.MethodName) jdk_17_method_108_code (4 : Nat) (Option.some Jvm.ClassFile.FieldType.int)).before args0 about1 = true := code_word (m := ⟨7, 10⟩) (meth := k7m10) (c := k7c10) (by decide +kernel) rfl rfl rfl (by decide +kernel)
set_option maxRecDepth 65536 in
theorem w_c24 : (Jvm.Cond.code ({ cls := "java/lang/Long", name := "compare", desc := "(JJ)I" } : Jvm.MethodName) jdk_35_method_42_code (4 : Nat) (Option.some Jvm.ClassFile.FieldType.int)).before args0 about1 = true := code_word (m := ⟨12, 0⟩) (meth := k12m0) (c := k12c0) (by decide +kernel) rfl rfl rfl (by decide +kernel)
set_option maxRecDepth 65536 in
theorem w_c25 : (Jvm.Cond.code ({ cls := "java/math/BigDecimal", name := "commonNeedIncrement", desc := "(IIIZ)Z" } : Jvm.MethodName) jdk_17_method_121_code (4 : Nat) (Option.some Jvm.ClassFile.FieldType.boolean)).before args0 about1 = true := code_word (m := ⟨7, 13⟩) (meth := k7m13) (c := k7c13) (by decide +kernel) rfl rfl rfl (by decide +kernel)
set_option maxRecDepth 65536 in
theorem w_c26 : (Jvm.Cond.code ({ cls := "java/math/BigDecimal", name := "zeroValueOf", desc := "(I)Ljava/math/BigDecimal;" } : Jvm.MethodName) jdk_17_method_24_code (1 : Nat) (Option.some (Jvm.ClassFile.FieldType.object "java/math/BigDecimal"))).before args0 about1 = true := code_word (m := ⟨7, 3⟩) (meth := k7m3) (c := k7c3) (by decide +kernel) rfl rfl rfl (by decide +kernel)
def codes1 : List Jvm.Cond := [Jvm.Cond.code x code maxLocals ret, Jvm.Cond.code ({ cls := "java/lang/Math", name := "max", desc := "(II)I" } : Jvm.MethodName) jdk_29_method_65_code (2 : Nat) (Option.some Jvm.ClassFile.FieldType.int), Jvm.Cond.code ({ cls := "java/lang/Math", name := "abs", desc := "(J)J" } : Jvm.MethodName) jdk_29_method_61_code (2 : Nat) (Option.some Jvm.ClassFile.FieldType.long), Jvm.Cond.code ({ cls := "com/example/indexwerk/indexwerk/Weight", name := "equalAmong", desc := "(I)Lcom/example/indexwerk/indexwerk/Weight;" } : Jvm.MethodName) prog_8_method_4_code (1 : Nat) (Option.some (Jvm.ClassFile.FieldType.object "com/example/indexwerk/indexwerk/Weight")), Jvm.Cond.code ({ cls := "java/math/BigDecimal", name := "valueOf", desc := "(J)Ljava/math/BigDecimal;" } : Jvm.MethodName) jdk_17_method_21_code (2 : Nat) (Option.some (Jvm.ClassFile.FieldType.object "java/math/BigDecimal")), Jvm.Cond.code ({ cls := "com/example/indexwerk/indexwerk/Weight", name := "<init>", desc := "(Ljava/math/BigDecimal;Ljava/math/BigDecimal;)V" } : Jvm.MethodName) prog_8_method_1_code (3 : Nat) (Option.none : Option Jvm.ClassFile.FieldType), Jvm.Cond.code ({ cls := "java/lang/Object", name := "<init>", desc := "()V" } : Jvm.MethodName) object_method_1_code (1 : Nat) (Option.none : Option Jvm.ClassFile.FieldType), Jvm.Cond.code ({ cls := "com/example/indexwerk/indexwerk/Weight", name := "shareCount", desc := "(Ljava/math/BigDecimal;Ljava/math/BigDecimal;I)Ljava/math/BigDecimal;" } : Jvm.MethodName) prog_8_method_5_code (4 : Nat) (Option.some (Jvm.ClassFile.FieldType.object "java/math/BigDecimal")), Jvm.Cond.code ({ cls := "java/math/BigDecimal", name := "multiply", desc := "(Ljava/math/BigDecimal;)Ljava/math/BigDecimal;" } : Jvm.MethodName) jdk_17_method_31_code (3 : Nat) (Option.some (Jvm.ClassFile.FieldType.object "java/math/BigDecimal")), Jvm.Cond.code ({ cls := "java/math/BigDecimal", name := "checkScale", desc := "(J)I" } : Jvm.MethodName) jdk_17_method_106_code (5 : Nat) (Option.some Jvm.ClassFile.FieldType.int), Jvm.Cond.code ({ cls := "java/math/BigDecimal", name := "multiply", desc := "(JJI)Ljava/math/BigDecimal;" } : Jvm.MethodName) jdk_17_method_157_code (7 : Nat) (Option.some (Jvm.ClassFile.FieldType.object "java/math/BigDecimal")), Jvm.Cond.code ({ cls := "java/math/BigDecimal", name := "multiply", desc := "(JJ)J" } : Jvm.MethodName) jdk_17_method_156_code (10 : Nat) (Option.some Jvm.ClassFile.FieldType.long), Jvm.Cond.code ({ cls := "java/math/BigDecimal", name := "valueOf", desc := "(JI)Ljava/math/BigDecimal;" } : Jvm.MethodName) jdk_17_method_20_code (3 : Nat) (Option.some (Jvm.ClassFile.FieldType.object "java/math/BigDecimal")), Jvm.Cond.code ({ cls := "java/math/BigDecimal", name := "divide", desc := "(Ljava/math/BigDecimal;ILjava/math/RoundingMode;)Ljava/math/BigDecimal;" } : Jvm.MethodName) jdk_17_method_34_code (4 : Nat) (Option.some (Jvm.ClassFile.FieldType.object "java/math/BigDecimal")), Jvm.Cond.code ({ cls := "java/math/BigDecimal", name := "divide", desc := "(Ljava/math/BigDecimal;II)Ljava/math/BigDecimal;" } : Jvm.MethodName) jdk_17_method_33_code (4 : Nat) (Option.some (Jvm.ClassFile.FieldType.object "java/math/BigDecimal")), Jvm.Cond.code ({ cls := "java/math/BigDecimal", name := "divide", desc := "(JIJIII)Ljava/math/BigDecimal;" } : Jvm.MethodName) jdk_17_method_166_code (13 : Nat) (Option.some (Jvm.ClassFile.FieldType.object "java/math/BigDecimal")), Jvm.Cond.code ({ cls := "java/math/BigDecimal", name := "checkScale", desc := "(JJ)I" } : Jvm.MethodName) jdk_17_method_113_code (5 : Nat) (Option.some Jvm.ClassFile.FieldType.int), Jvm.Cond.code ({ cls := "java/math/BigDecimal", name := "longMultiplyPowerTen", desc := "(JI)J" } : Jvm.MethodName) jdk_17_method_97_code (7 : Nat) (Option.some Jvm.ClassFile.FieldType.long), Jvm.Cond.code ({ cls := "java/math/BigDecimal", name := "divideAndRound", desc := "(JJIII)Ljava/math/BigDecimal;" } : Jvm.MethodName) jdk_17_method_119_code (13 : Nat) (Option.some (Jvm.ClassFile.FieldType.object "java/math/BigDecimal")), Jvm.Cond.code ({ cls := "java/math/BigDecimal", name := "<init>", desc := "(Ljava/math/BigInteger;JII)V" } : Jvm.MethodName) jdk_17_method_1_code (6 : Nat) (Option.none : Option Jvm.ClassFile.FieldType), Jvm.Cond.code ({ cls := "java/lang/Number", name := "<init>", desc := "()V" } : Jvm.MethodName) jdk_18_method_1_code (1 : Nat) (Option.none : Option Jvm.ClassFile.FieldType), Jvm.Cond.code ({ cls := "java/math/BigDecimal", name := "equals", desc := "(Ljava/lang/Object;)Z" } : Jvm.MethodName) jdk_17_method_72_code (7 : Nat) (Option.some Jvm.ClassFile.FieldType.boolean), Jvm.Cond.code ({ cls := "java/math/BigDecimal", name := "needIncrement", desc := "(JIIJJ)Z" } : Jvm.MethodName) jdk_17_method_122_code (9 : Nat) (Option.some Jvm.ClassFile.FieldType.boolean), Jvm.Cond.code ({ cls := "java/math/BigDecimal", name := "longCompareMagnitude", desc := "(JJ)I" } : Jvm.MethodName) jdk_17_method_108_code (4 : Nat) (Option.some Jvm.ClassFile.FieldType.int), Jvm.Cond.code ({ cls := "java/lang/Long", name := "compare", desc := "(JJ)I" } : Jvm.MethodName) jdk_35_method_42_code (4 : Nat) (Option.some Jvm.ClassFile.FieldType.int), Jvm.Cond.code ({ cls := "java/math/BigDecimal", name := "commonNeedIncrement", desc := "(IIIZ)Z" } : Jvm.MethodName) jdk_17_method_121_code (4 : Nat) (Option.some Jvm.ClassFile.FieldType.boolean), Jvm.Cond.code ({ cls := "java/math/BigDecimal", name := "zeroValueOf", desc := "(I)Ljava/math/BigDecimal;" } : Jvm.MethodName) jdk_17_method_24_code (1 : Nat) (Option.some (Jvm.ClassFile.FieldType.object "java/math/BigDecimal"))]
set_option maxRecDepth 65536 in
theorem codes_eq : words1.filter isCode = codes1 := rfl
theorem w_codes : ∀ c ∈ words1.filter isCode, c.before args0 about1 = true := by
  rw [codes_eq]
  intro c hc
  simp only [codes1, List.mem_cons, List.not_mem_nil, or_false] at hc
  rcases hc with rfl | rfl | rfl | rfl | rfl | rfl | rfl | rfl | rfl | rfl | rfl | rfl | rfl | rfl | rfl | rfl | rfl | rfl | rfl | rfl | rfl | rfl | rfl | rfl | rfl | rfl | rfl
  · exact w_c0
  · exact w_c1
  · exact w_c2
  · exact w_c3
  · exact w_c4
  · exact w_c5
  · exact w_c6
  · exact w_c7
  · exact w_c8
  · exact w_c9
  · exact w_c10
  · exact w_c11
  · exact w_c12
  · exact w_c13
  · exact w_c14
  · exact w_c15
  · exact w_c16
  · exact w_c17
  · exact w_c18
  · exact w_c19
  · exact w_c20
  · exact w_c21
  · exact w_c22
  · exact w_c23
  · exact w_c24
  · exact w_c25
  · exact w_c26
set_option maxRecDepth 65536 in
theorem w_t1 : (words1.take 24).all (fun c => isCode c || c.before args0 about1) = true := by decide +kernel
set_option maxRecDepth 65536 in
theorem w_t2 : ((words1.drop 24).take 24).all (fun c => isCode c || c.before args0 about1) = true := by decide +kernel
set_option maxRecDepth 65536 in
theorem w_t3 : (((words1.drop 24).drop 24).take 24).all (fun c => isCode c || c.before args0 about1) = true := by decide +kernel
set_option maxRecDepth 65536 in
theorem w_t4 : ((((words1.drop 24).drop 24).drop 24).take 24).all (fun c => isCode c || c.before args0 about1) = true := by decide +kernel
set_option maxRecDepth 65536 in
theorem w_t5 : (((((words1.drop 24).drop 24).drop 24).drop 24).take 24).all (fun c => isCode c || c.before args0 about1) = true := by decide +kernel
set_option maxRecDepth 65536 in
theorem w_t6 : (((((words1.drop 24).drop 24).drop 24).drop 24).drop 24).all (fun c => isCode c || c.before args0 about1) = true := by decide +kernel
theorem w_tables : (allAtoms (Jvm.Cond.code x code maxLocals ret :: tables_1)).before args0 about1 = true := by
  rw [allAtoms_all]
  show words1.all (fun c => c.before args0 about1) = true
  refine all_split ?_ w_codes
  rw [← List.take_append_drop 24 words1, List.all_append, w_t1, ← List.take_append_drop 24 (words1.drop 24), List.all_append, w_t2, ← List.take_append_drop 24 ((words1.drop 24).drop 24), List.all_append, w_t3, ← List.take_append_drop 24 (((words1.drop 24).drop 24).drop 24), List.all_append, w_t4, ← List.take_append_drop 24 ((((words1.drop 24).drop 24).drop 24).drop 24), List.all_append, w_t5, w_t6]
  rfl
set_option maxRecDepth 65536 in
theorem w_rest : rest_1_c.before args0 about1 = true := by decide +kernel
set_option maxRecDepth 65536 in
theorem w_case : (Jvm.Cond.and given_1 narrow_1).before args0 about1 = true := by decide +kernel
theorem w_applies : (headSpec (Jvm.Cond.code x code maxLocals ret :: tables_1) room_1).applies x e0.platform about1 = true :=
  (Spec.applies_iff w_frames).mpr ⟨w_running, w_runnable, w_alone, w_named, w_hears, w_ripe, w_room, w_tables⟩
theorem atStart : AtStart classFile x code maxLocals ret World_1 tables_1 room_1 Calls_1 rest_1 Pre_1 launch0 p0 e0 about1 theMethod args0 below0 :=
  ⟨lists_1, trivial, launch0.admits_env _ _ _, launch0.least_env, fairChoices_fair.cas, fairChoices_fair.clock, w_frames, w_args, w_heap, w_applies, trivial, w_rest, w_case⟩
end start1
theorem witness_1 : WitnessClaimed_1 := ⟨start1.p0, start1.e0, start1.about1, start1.theMethod, start1.args0, start1.below0, start1.atStart⟩
end Jvm.Pilot.@@N@@
