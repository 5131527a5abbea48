import JvmDerived
import JvmDerived.Pilot.@@N@@Statement
import JvmDerived.Pilot.@@N@@Code
set_option linter.unusedVariables false
set_option linter.unusedSimpArgs false
namespace Jvm.RoadKit
open Sem ClassFile Op Lib Jvm.Stand Jvm.Free Jvm.LawKit
def GoW (p : Program) (e : Env) (below : List Frame) (s : State) (Q : Option Value → Heap → List Loc → Prop) (k n : Nat) (u : State) : Prop :=
  ∃ s₂ o, Steps p.tables e below u s₂ ∧ s₂.status = .running ∧ Ended s₂ below o ∧ ∃ v L, o = .returned v ∧ Q v s₂.heap L ∧ FrameEnd s o s₂ L k n
def PureQ (r : Value) (h0 : Heap) (n0 : Nat) (v : Option Value) (h : Heap) (L : List Loc) : Prop := v = some r ∧ Fr n0 L ∧ h = h0
def ValQ (r : Value) (n0 : Nat) (v : Option Value) (h : Heap) (L : List Loc) : Prop := v = some r ∧ Fr n0 L
section New
variable {p : Program} {l : Launch} {e : Env} {R : Room} {s : State} {m : MethodId} {args : Array Value} {below : List Frame} {meth : Method} {c : Code} {T : State} {locs : List Loc} {cells slots : Nat} {Q : Option Value → Heap → List Loc → Prop} {k n : Nat} {u v : State}
theorem GoW.mk (h : GoW p e below s Q k n u) : ∃ s₂ o, Steps p.tables e below u s₂ ∧ s₂.status = .running ∧ Ended s₂ below o ∧ ∃ v L, o = .returned v ∧ Q v s₂.heap L ∧ FrameEnd s o s₂ L k n := h
theorem GoW.st (h : ∀ t, Steps p.tables e below u t → Steps p.tables e below v t) (q : GoW p e below s Q k n u) : GoW p e below s Q k n v := by
  obtain ⟨s₂, o, h1, h2⟩ := q; exact ⟨s₂, o, h _ h1, h2⟩
theorem GoW.sg {T' : State} (g' : JFrame) (h : ∀ t, Steps p.tables e below (T'.setTop g') t → Steps p.tables e below v t) (q : GoW p e below s Q k n (T'.setTop g')) : GoW p e below s Q k n v := GoW.st h q
theorem retI (X : Stand p l e R s m args below meth c T locs cells slots) (hx : p.tables.exec = Jvm.exec) {pc : Nat} {Ls : Array Slot} {z : Int32} {rest : List Value} (hret : meth.sig.returnType = some .int) (hd : decode c.code pc = .ok (.ireturn, 1)) {fs : List Frame}
    (hl : ∀ (f : JFrame) (acts : List Action), f.method = m → f.locked = none → f.entered = [] → (doReturn e (T.setTop f) acts (some (.int z))).1 = T.setFrames fs) : Steps p.tables e below (T.setTop (mkF m pc Ls (.int z :: rest))) (T.setFrames fs) := by
  have hm' : T.vm.method? m = some meth := X.method'
  have hn : narrow .int (.int z) = .int z := rfl
  show Steps p.tables e below (T.setTop { method := m, pc := pc, locals := Ls, stack := _ :: rest, locked := none }) _
  jvm_step X.here [X.here.top, hx, hd, hm', hret, hn]
  first | (intro acts; rw [hl _ acts rfl rfl rfl]) | rw [hl _ _ rfl rfl rfl]
  exact Steps.refl _
theorem GoW.retN (X : Stand p l e R s m args below meth c T locs cells slots) (hx : p.tables.exec = Jvm.exec) {pc : Nat} {Ls : Array Slot} {z : Int32} {t : FieldType} {rest : List Value} (hret : meth.sig.returnType = some t) (ht : t = .boolean ∨ t = .byte ∨ t = .char ∨ t = .short)
    (hd : decode c.code pc = .ok (.ireturn, 1)) (hlk : meth.locks = false) (hq : Q (some (.int (nar t z))) T.heap locs) (hk : cells ≤ k) (hn : slots ≤ n) : GoW p e below s Q k n (T.setTop (mkF m pc Ls (.int z :: rest))) := by
  obtain ⟨fs, hr, hrun, hended, hW, hsame⟩ := X.leave (v := some (.int (nar t z))) (fun h => by rw [hret] at h; cases h) hlk
  exact ⟨_, _, Jvm.RoadKit.retN X hx hret ht hd hr, hrun, hended, _, _, rfl, hq, ⟨_, rfl⟩, hW, hsame.mono hk hn⟩
theorem GoW.retI (X : Stand p l e R s m args below meth c T locs cells slots) (hx : p.tables.exec = Jvm.exec) {pc : Nat} {Ls : Array Slot} {z : Int32} {rest : List Value} (hret : meth.sig.returnType = some .int)
    (hd : decode c.code pc = .ok (.ireturn, 1)) (hlk : meth.locks = false) (hq : Q (some (.int z)) T.heap locs) (hk : cells ≤ k) (hn : slots ≤ n) : GoW p e below s Q k n (T.setTop (mkF m pc Ls (.int z :: rest))) := by
  obtain ⟨fs, hr, hrun, hended, hW, hsame⟩ := X.leave (v := some (.int z)) (fun h => by rw [hret] at h; cases h) hlk
  exact ⟨_, _, Jvm.RoadKit.retI X hx hret hd hr, hrun, hended, _, _, rfl, hq, ⟨_, rfl⟩, hW, hsame.mono hk hn⟩
theorem GoW.retL (X : Stand p l e R s m args below meth c T locs cells slots) (hx : p.tables.exec = Jvm.exec) {pc : Nat} {Ls : Array Slot} {z : Int64} {rest : List Value} (hret : meth.sig.returnType = some .long)
    (hd : decode c.code pc = .ok (.lreturn, 1)) (hlk : meth.locks = false) (hq : Q (some (.long z)) T.heap locs) (hk : cells ≤ k) (hn : slots ≤ n) : GoW p e below s Q k n (T.setTop (mkF m pc Ls (.long z :: rest))) := by
  obtain ⟨fs, hr, hrun, hended, hW, hsame⟩ := X.leave (v := some (.long z)) (fun h => by rw [hret] at h; cases h) hlk
  exact ⟨_, _, retOut X hx hret rfl (Or.inr (Or.inl ⟨rfl, rfl, z, rfl⟩)) hd hr, hrun, hended, _, _, rfl, hq, ⟨_, rfl⟩, hW, hsame.mono hk hn⟩
theorem GoW.retA (X : Stand p l e R s m args below meth c T locs cells slots) (hx : p.tables.exec = Jvm.exec) {pc : Nat} {Ls : Array Slot} {w : Value} {t : FieldType} {rest : List Value} (hret : meth.sig.returnType = some t) (hw : w.isRef = true) (ht : t.isReference = true)
    (hn' : narrow t w = w) (hd : decode c.code pc = .ok (.areturn, 1)) (hlk : meth.locks = false) (hq : Q (some w) T.heap locs) (hk : cells ≤ k) (hn : slots ≤ n) : GoW p e below s Q k n (T.setTop (mkF m pc Ls (w :: rest))) := by
  obtain ⟨fs, hr, hrun, hended, hW, hsame⟩ := X.leave (v := some w) (fun h => by rw [hret] at h; cases h) hlk
  exact ⟨_, _, retOut X hx hret hn' (Or.inr (Or.inr (Or.inr (Or.inr ⟨rfl, ht, hw⟩)))) hd hr, hrun, hended, _, _, rfl, hq, ⟨_, rfl⟩, hW, hsame.mono hk hn⟩
theorem GoW.retV (X : Stand p l e R s m args below meth c T locs cells slots) (hx : p.tables.exec = Jvm.exec) {pc : Nat} {Ls : Array Slot} (hret : meth.sig.returnType = none)
    (hd : decode c.code pc = .ok (.return_, 1)) (hlk : meth.locks = false) (hq : Q none T.heap locs) (hk : cells ≤ k) (hn : slots ≤ n) : GoW p e below s Q k n (T.setTop (mkF m pc Ls [])) := by
  obtain ⟨fs, hr, hrun, hended, hW, hsame⟩ := X.leave (v := none) (fun _ => rfl) hlk
  exact ⟨_, _, X.returnOut hx hret hd hr, hrun, hended, _, _, rfl, hq, ⟨_, rfl⟩, hW, hsame.mono hk hn⟩
theorem hq_ {T : State} {h : Heap} {a : Addr} {c : Cell} (e : T.heap = h) (q : h[a]? = some c) : T.heap[a]? = some c := by rw [e]; exact q
theorem own_b53 (x : Int32) : B53 x.toInt64 := by
  have h := rng32 x
  unfold B53; rw [Int32.toInt_toInt64]; omega
theorem own_eqI {args : Array Value} {first s : State} {o : Option Outcome} {idx : List Nat} {t : Term} {i : Int32} (h : (Jvm.Cond.eq t (.int i)).value args first o s idx = some true) : t.eval args first o idx s = some (.int i) := by
  obtain ⟨x, y, hx, hy, k1, k2⟩ := cmp_v (Or.inl h)
  rw [Term.int_eval] at hy
  cases hy
  obtain ⟨z, rfl⟩ := k2
  have q := gotT (Cond.eq_ints hx (Term.int_eval i)) h
  rw [hx, q]
theorem own_ne {args : Array Value} {first s : State} {o : Option Outcome} {idx : List Nat} {t u : Term} {C n d : String} {i j : Int32} {a b : Addr} (h1 : (Jvm.Cond.eq (.field t C n d) (.int i)).value args first o s idx = some true) (h2 : (Jvm.Cond.eq (.field u C n d) (.int j)).value args first o s idx = some true)
    (ha : t.eval args first o idx s = some (.ref a)) (hb : u.eval args first o idx s = some (.ref b)) (hij : i ≠ j) : a ≠ b := fun e => by
  subst e
  have q1 := own_eqI h1
  have q2 := own_eqI h2
  rw [fld_at ha] at q1
  rw [fld_at hb, q1] at q2
  exact hij (by cases q2; rfl)
theorem own_staK0 {Z : State} {h h' : Heap} {C n d : String} {v : Value} (F : Sta Z h C n d v) (K : Keep h h' []) : Sta Z h' C n d v := by
  obtain ⟨cf, i, k, f, st, cell, h1, h2, h3, h4, h5, r⟩ := F; exact ⟨cf, i, k, f, st, cell, h1, h2, h3, h4, K.2.1 _ _ h5 nin0, r⟩
def NSt (h : Heap) (a : Addr) : Prop := ∀ c : Cell, h[a]? = some c → c.vm.isStatics = false
theorem own_nsE {Z : State} {h : Heap} {a : Addr} {C : String} (E : Exa Z h a C) : NSt h a := fun c hc => by
  obtain ⟨cell2, k2, g1, -, -, g2, -⟩ := E
  cases hc.symm.trans g1
  exact g2
theorem own_nsA {Z : State} {h : Heap} {a : Addr} {k : ClassId} {ty : FieldType} {z : Int32} {vs : List Value} {dv : Value} (A : Arv Z h a k ty z vs dv) : NSt h a := fun c hc => by
  obtain ⟨cl, A, -⟩ := A
  cases hc.symm.trans A.1
  exact A.plain
theorem own_staK {Z : State} {h h' : Heap} {C n d : String} {v : Value} {ws : List Addr} (F : Sta Z h C n d v) (K : Keep h h' ws) (E : ∀ x ∈ ws, NSt h x) : Sta Z h' C n d v := by
  obtain ⟨cf, i, k, f, st, cell, h1, h2, h3, h4, h5, h6, r⟩ := F
  refine ⟨cf, i, k, f, st, cell, h1, h2, h3, h4, K.2.1 _ _ h5 (fun q => ?_), h6, r⟩
  have := E st q cell h5
  rw [h6] at this; cases this
theorem GoW.retD (X : Stand p l e R s m args below meth c T locs cells slots) (hx : p.tables.exec = Jvm.exec) {pc : Nat} {Ls : Array Slot} {z : UInt64} {rest : List Value} (hret : meth.sig.returnType = some .double)
    (hd : decode c.code pc = .ok (.dreturn, 1)) (hlk : meth.locks = false) (hq : Q (some (.double z)) T.heap locs) (hk : cells ≤ k) (hn : slots ≤ n) : GoW p e below s Q k n (T.setTop (mkF m pc Ls (.double z :: rest))) := by
  obtain ⟨fs, hr, hrun, hended, hW, hsame⟩ := X.leave (v := some (.double z)) (fun h => by rw [hret] at h; cases h) hlk
  exact ⟨_, _, retOut X hx hret rfl (Or.inr (Or.inr (Or.inl ⟨rfl, rfl, z, rfl⟩))) hd hr, hrun, hended, _, _, rfl, hq, ⟨_, rfl⟩, hW, hsame.mono hk hn⟩
theorem own_pop2L {tb : Tables} [Ours tb] {e : Env} {below : List Frame} {T target : State} {m : MethodId} {c : Code} {g : JFrame} (h : At T m c below) (hx : tb.exec = Jvm.exec) (hg : g.method = m) {x : Int64} {rest : List Value} (hd : decode c.code g.pc = .ok (.pop2, 1)) (hs : g.stack = .long x :: rest)
    (hr : Steps tb e below (T.setTop { g with pc := g.pc + 1, stack := rest }) target) : Steps tb e below (T.setTop g) target := by
  subst hg
  jvm_step h [h.top, hx, hd, hs, Value.category]
  exact hr
theorem own_callS {Z : State} {a0 : Array Value} {h : Heap} (X : Stand p l e R s m args below meth c T locs cells slots) (hx : p.tables.exec = Jvm.exec) (hZ : Z.Warmed39 s.vm) {own : String} {index : Nat} {y : MethodName} {bytes : ByteArray} {maxL : Nat} {ret : Option FieldType}
    (hown : s.vm.findClass own = some m.cls) (w1 : (Jvm.Cond.methodLink own index y).before a0 Z = true) (w2 : (Jvm.Cond.static y).before a0 Z = true) (w3 : (Jvm.Cond.initialized y.cls).before a0 Z = true) (w4 : (Jvm.Cond.code y bytes maxL ret).before a0 Z = true)
    (hy : y.cls ≠ "java/lang/invoke/MethodHandle" ∧ y.cls ≠ "java/lang/invoke/VarHandle") (W : Nat) {rm : Room} {argsL rest : List Value} {Q : Option Value → Heap → List Loc → Prop}
    (hM : MetFree l y (head1 [Jvm.Cond.code y bytes maxL ret] rm) (fun a U => a = argsL.toArray ∧ Z.Warmed39 U.vm ∧ U.heap = h) (fun _ _ _ _ _ => True) (fun _ U o U' => ∃ v L, o = .returned v ∧ Q v U'.heap L ∧ FrameEnd U o U' L rm.cells rm.slots))
    (hf : rm.frames + 1 ≤ R.frames) (hl : W + (maxL + 11) + rm.locals ≤ R.locals) (eT : T.heap = h) (hc : cells + rm.cells ≤ R.cells) (hs : slots + rm.slots ≤ R.slots)
    {g : JFrame} (hg : g.method = m) (hsize : g.locals.size = c.maxLocals) (hlen : ∀ sig, parseMethodDescriptor y.desc = some sig → argsL.length = sig.parameters.length)
    (hstack : g.stack = argsL.reverse ++ rest) (hW : 2 * g.monitorRoom + (rest.map fun v => v.category).sum ≤ W) (hdg : decode c.code g.pc = .ok (.invokestatic index, 3)) :
    ∃ (v : Option Value) (T' : State) (L : List Loc), Stand p l e R s m args below meth c T' (locs ++ L) (cells + rm.cells) (slots + rm.slots) ∧ Q v T'.heap L ∧
      ∀ target, Steps p.tables e below (T'.setTop { g with pc := g.pc + 3, stack := v.toList ++ rest }) target → Steps p.tables e below (T.setTop g) target := by
  obtain ⟨v, _, ⟨T', L', k', n'⟩, -, X', ⟨Lc, hQ, l', y', z'⟩, st⟩ := Jvm.LawKit.callS X hx (y := y) hown (mvT hZ w1) (mvT hZ w2) (mvT hZ w3) (mvT hZ w4) hy (backOf (W := W) hM hZ w4 w3 hf hl) (g := g) hg hsize (argsL := argsL) (rest := rest) hlen hstack hW hdg (fun _ _ => ⟨rfl, eT, hc, hs⟩)
  dsimp only [Pt.U, Pt.locs, Pt.cells, Pt.slots] at X' l' y' z' st hQ
  subst l' y' z'
  exact ⟨v, T', Lc, X', hQ, st⟩
def GoV (p : Program) (e : Env) (below : List Frame) (s : State) (Q : Option Value → Heap → List Loc → Prop) (k n : Nat) (u : State) : Prop :=
  ∃ s₂ o, Steps p.tables e below u s₂ ∧ s₂.status = .running ∧ Ended s₂ below o ∧ ∃ v L, o = .returned v ∧ Q v s₂.heap L ∧ ReturnedEndW s o s₂ L k n
theorem GoV.mk (h : GoV p e below s Q k n u) : ∃ s₂ o, Steps p.tables e below u s₂ ∧ s₂.status = .running ∧ Ended s₂ below o ∧ ∃ v L, o = .returned v ∧ Q v s₂.heap L ∧ ReturnedEndW s o s₂ L k n := h
theorem GoV.st (h : ∀ t, Steps p.tables e below u t → Steps p.tables e below v t) (q : GoV p e below s Q k n u) : GoV p e below s Q k n v := by
  obtain ⟨s₂, o, h1, h2⟩ := q; exact ⟨s₂, o, h _ h1, h2⟩
theorem GoV.sg {T' : State} (g' : JFrame) (h : ∀ t, Steps p.tables e below (T'.setTop g') t → Steps p.tables e below v t) (q : GoV p e below s Q k n (T'.setTop g')) : GoV p e below s Q k n v := GoV.st h q
theorem GoV.retN {vm1 : Vm} {n1 : Nat} (X : Stand p l e R (s.setVm vm1) m args below meth c T locs cells slots) (hS : s.Since vm1 n1) (h1 : n1 ≤ T.heap.size) (hx : p.tables.exec = Jvm.exec) {pc : Nat} {Ls : Array Slot} {z : Int32} {t : FieldType} {rest : List Value} (hret : meth.sig.returnType = some t) (ht : t = .boolean ∨ t = .byte ∨ t = .char ∨ t = .short)
    (hd : decode c.code pc = .ok (.ireturn, 1)) (hlk : meth.locks = false) (hq : Q (some (.int (nar t z))) T.heap locs) (hk : cells ≤ k) (hn : slots ≤ n) : GoV p e below s Q k n (T.setTop (mkF m pc Ls (.int z :: rest))) := by
  obtain ⟨fs, hr, hrun, hended, hv, hW, hB, hs⟩ := X.leaveW hS h1 (v := some (.int (nar t z))) (fun h => by rw [hret] at h; cases h) hlk
  exact ⟨_, _, Jvm.RoadKit.retN X hx hret ht hd hr, hrun, hended, _, _, rfl, hq, hv, hW, hB, hs.mono hk hn⟩
def GoU (p : Program) (e : Env) (below : List Frame) (s : State) (Q : Option Value → Heap → Vm → List Loc → Prop) (k n : Nat) (u : State) : Prop :=
  ∃ s₂ o, Steps p.tables e below u s₂ ∧ s₂.status = .running ∧ Ended s₂ below o ∧ ∃ v L, o = .returned v ∧ Q v s₂.heap s₂.vm L ∧ ReturnedEndW s o s₂ L k n
section Wide
variable {QQ : Option Value → Heap → Vm → List Loc → Prop}
theorem GoU.mk (h : GoU p e below s QQ k n u) : ∃ s₂ o, Steps p.tables e below u s₂ ∧ s₂.status = .running ∧ Ended s₂ below o ∧ ∃ v L, o = .returned v ∧ QQ v s₂.heap s₂.vm L ∧ ReturnedEndW s o s₂ L k n := h
theorem GoU.st (h : ∀ t, Steps p.tables e below u t → Steps p.tables e below v t) (q : GoU p e below s QQ k n u) : GoU p e below s QQ k n v := by
  obtain ⟨s₂, o, h1, h2⟩ := q; exact ⟨s₂, o, h _ h1, h2⟩
theorem GoU.sg {T' : State} (g' : JFrame) (h : ∀ t, Steps p.tables e below (T'.setTop g') t → Steps p.tables e below v t) (q : GoU p e below s QQ k n (T'.setTop g')) : GoU p e below s QQ k n v := GoU.st h q
theorem GoU.retV {vm1 : Vm} {n1 : Nat} (X : Stand p l e R (s.setVm vm1) m args below meth c T locs cells slots) (hS : s.Since vm1 n1) (h1 : n1 ≤ T.heap.size) (hx : p.tables.exec = Jvm.exec) {pc : Nat} {Ls : Array Slot} (hret : meth.sig.returnType = none)
    (hd : decode c.code pc = .ok (.return_, 1)) (hlk : meth.locks = false) (hq : QQ none T.heap T.vm locs) (hk : cells ≤ k) (hn : slots ≤ n) : GoU p e below s QQ k n (T.setTop (mkF m pc Ls [])) := by
  obtain ⟨fs, hr, hrun, hended, hv, hW, hB, hs⟩ := X.leaveW hS h1 (v := none) (fun _ => rfl) hlk
  exact ⟨_, _, X.returnOut hx hret hd hr, hrun, hended, _, _, rfl, hq, hv, hW, hB, hs.mono hk hn⟩
theorem GoU.retA {vm1 : Vm} {n1 : Nat} (X : Stand p l e R (s.setVm vm1) m args below meth c T locs cells slots) (hS : s.Since vm1 n1) (h1 : n1 ≤ T.heap.size) (hx : p.tables.exec = Jvm.exec) {pc : Nat} {Ls : Array Slot} {w : Value} {t : FieldType} {rest : List Value} (hret : meth.sig.returnType = some t) (hw : w.isRef = true) (ht : t.isReference = true)
    (hn' : narrow t w = w) (hd : decode c.code pc = .ok (.areturn, 1)) (hlk : meth.locks = false) (hq : QQ (some w) T.heap T.vm locs) (hk : cells ≤ k) (hn : slots ≤ n) : GoU p e below s QQ k n (T.setTop (mkF m pc Ls (w :: rest))) := by
  obtain ⟨fs, hr, hrun, hended, hv, hW, hB, hs⟩ := X.leaveW hS h1 (v := some w) (fun h => by rw [hret] at h; cases h) hlk
  exact ⟨_, _, retOut X hx hret hn' (Or.inr (Or.inr (Or.inr (Or.inr ⟨rfl, ht, hw⟩)))) hd hr, hrun, hended, _, _, rfl, hq, hv, hW, hB, hs.mono hk hn⟩
theorem own_ibW {Z : State} {vm0 vm1 : Vm} {Ts : List String} (I : IB Z vm0 Ts) (h : vm1.interned = vm0.interned) : IB Z vm1 Ts := by
  obtain ⟨more, h1, h2⟩ := I; exact ⟨more, h.trans h1, h2⟩
theorem own_backU {Z : State} {a0 : Array Value} {h : Heap} {y : MethodName} {bytes : ByteArray} {maxL : Nat} {ret : Option FieldType} {rm : Room} {len W : Nat} {as' : Array Value} {PV : Vm → Prop}
    (hM : MetFree l y (head1 [Jvm.Cond.code y bytes maxL ret] rm) (fun a U => a = as' ∧ Z.Warmed39 U.vm ∧ U.heap = h ∧ PV U.vm) (fun _ _ _ _ _ => True) (fun _ U o U' => ∃ v L, o = .returned v ∧ QQ v U'.heap U'.vm L ∧ ReturnedEndW U o U' L rm.cells rm.slots))
    (hZ : Z.Warmed39 s.vm) (hI : ∀ vm1, s.WarmedH vm1 → PV vm1) (wc : (Jvm.Cond.code y bytes maxL ret).before a0 Z = true) (wz : (Jvm.Cond.initialized y.cls).before a0 Z = true) (hf : rm.frames + 1 ≤ R.frames) (hl : W + (maxL + 11) + rm.locals ≤ R.locals) :
    BackS l R p e below s args y len W (fun A a => a = as' ∧ A.U.heap = h ∧ A.cells + rm.cells ≤ R.cells ∧ A.slots + rm.slots ≤ R.slots)
      (fun A _ v B => ∃ L, QQ v B.U.heap B.U.vm L ∧ B.locs = A.locs ++ L ∧ B.cells = A.cells + rm.cells ∧ B.slots = A.slots + rm.slots) :=
  BackS.of_freeW (bytes := bytes) (maxL := maxL) (ret := ret) (E := fun _ _ o t L k n => k = rm.cells ∧ n = rm.slots ∧ ∃ v, o = .returned v ∧ QQ v t.heap t.vm L) hM hf hl
    (fun m meth c A a Y hp => have hU : Z.Warmed39 A.U.vm := wtrans hZ Y.warmed
      ⟨by show (Jvm.Cond.and _ .tt).before a A.U = true; rw [Cond.before_and, mv hU wc]; rfl, mv hU wc, mv hU wz, hp.2.2.1, hp.2.2.2⟩)
    (fun m meth c A a g mk Y hp => ⟨hp.1, wtrans hZ Y.warmed, hp.2.1, hI _ Y.warmed⟩) (fun _ _ _ _ _ _ _ _ _ => trivial)
    (fun _ _ _ _ ⟨v, L, h1, h2, h3⟩ => ⟨L, _, _, h3, rfl, rfl, v, h1, h2⟩)
    (fun m meth c A a g mk v t L k n Y hp _ _ ⟨e1, e2, v', e3, e4⟩ => by cases e3; subst e1 e2; exact ⟨L, e4, rfl, rfl, rfl⟩)
theorem own_specU {Z : State} {a0 : Array Value} {h : Heap} {vm0 : Vm} {k0 : Nat} (X : Stand p l e R (s.setVm vm0) m args below meth c T locs cells slots) (hx : p.tables.exec = Jvm.exec) (hZ : Z.Warmed39 (s.setVm vm0).vm) (hS : s.Since vm0 k0) (hk0 : k0 ≤ h.size) {own : String} {index : Nat} {y : MethodName} {bytes : ByteArray} {maxL : Nat} (hy1 : y.name = "<init>")
    (hown : (s.setVm vm0).vm.findClass own = some m.cls) (w1 : (Jvm.Cond.methodLink own index y).before a0 Z = true) (w2 : (Jvm.Cond.instanceMethod y).before a0 Z = true) (w3 : (Jvm.Cond.initialized y.cls).before a0 Z = true) (w4 : (Jvm.Cond.code y bytes maxL none).before a0 Z = true)
    (hy : y.cls ≠ "java/lang/invoke/MethodHandle" ∧ y.cls ≠ "java/lang/invoke/VarHandle") (W : Nat) {rm : Room} {a : Addr} {argsL rest : List Value} {PV : Vm → Prop}
    (hM : MetFree l y (head1 [Jvm.Cond.code y bytes maxL none] rm) (fun a' U => a' = (Value.ref a :: argsL).toArray ∧ Z.Warmed39 U.vm ∧ U.heap = h ∧ PV U.vm) (fun _ _ _ _ _ => True) (fun _ U o U' => ∃ v L, o = .returned v ∧ QQ v U'.heap U'.vm L ∧ ReturnedEndW U o U' L rm.cells rm.slots)) (hI : ∀ vm1, (s.setVm vm0).WarmedH vm1 → PV vm1)
    (hf : rm.frames + 1 ≤ R.frames) (hl : W + (maxL + 11) + rm.locals ≤ R.locals) (eT : T.heap = h) (hc : cells + rm.cells ≤ R.cells) (hs : slots + rm.slots ≤ R.slots)
    {g : JFrame} (hg : g.method = m) (hsize : g.locals.size = c.maxLocals) (hlen : ∀ sig, parseMethodDescriptor y.desc = some sig → argsL.length = sig.parameters.length)
    (hstack : g.stack = argsL.reverse ++ .ref a :: rest) (hW : 2 * g.monitorRoom + (rest.map fun v => v.category).sum ≤ W) (hdg : decode c.code g.pc = .ok (.invokespecial index, 3)) :
    ∃ (v : Option Value) (T' : State) (L : List Loc), Stand p l e R (s.setVm T'.vm) m args below meth c T' (locs ++ L) (cells + rm.cells) (slots + rm.slots) ∧ s.Since T'.vm T'.heap.size ∧ Z.Warmed39 (s.setVm T'.vm).vm ∧ (s.setVm T'.vm).vm.findClass own = some m.cls ∧ QQ v T'.heap T'.vm L ∧
      ∀ target, Steps p.tables e below (T'.setTop { g with pc := g.pc + 3, stack := v.toList ++ rest }) target → Steps p.tables e below (T.setTop g) target := by
  obtain ⟨v, _, ⟨T', L', k', n'⟩, -, X', hS', hgr, ⟨Lc, hQ, l', y', z'⟩, st⟩ := X.specialBackS hx (y := y) hy1 hown (mvT hZ w1) (mvT hZ w2) (mvT hZ w4) hy (own_backU (W := W) hM hZ hI w4 w3 hf hl) (g := g) hg hsize (Steps.refl _) (a := a) (argsL := argsL) (rest := rest) hlen hstack hW hdg (fun _ _ => ⟨rfl, eT, hc, hs⟩)
  dsimp only [Pt.U, Pt.locs, Pt.cells, Pt.slots] at X' l' y' z' st hQ hS' hgr
  subst l' y' z'
  exact ⟨v, T', Lc, X', foldS hS (by rw [eT]; exact hk0) hS' hgr, State.Warmed39.trans (t := s.setVm vm0) hZ hS'.1, by rw [show (s.setVm T'.vm).vm = T'.vm from rfl, hS'.1.alike.findClass]; exact hown, hQ, fun t k => st.trans k⟩
theorem own_callU {Z : State} {a0 : Array Value} {h : Heap} {vm0 : Vm} {k0 : Nat} (X : Stand p l e R (s.setVm vm0) m args below meth c T locs cells slots) (hx : p.tables.exec = Jvm.exec) (hZ : Z.Warmed39 (s.setVm vm0).vm) (hS : s.Since vm0 k0) (hk0 : k0 ≤ h.size) {own : String} {index : Nat} {y : MethodName} {bytes : ByteArray} {maxL : Nat} {ret : Option FieldType}
    (hown : (s.setVm vm0).vm.findClass own = some m.cls) (w1 : (Jvm.Cond.methodLink own index y).before a0 Z = true) (w2 : (Jvm.Cond.static y).before a0 Z = true) (w3 : (Jvm.Cond.initialized y.cls).before a0 Z = true) (w4 : (Jvm.Cond.code y bytes maxL ret).before a0 Z = true)
    (hy : y.cls ≠ "java/lang/invoke/MethodHandle" ∧ y.cls ≠ "java/lang/invoke/VarHandle") (W : Nat) {rm : Room} {argsL rest : List Value} {PV : Vm → Prop}
    (hM : MetFree l y (head1 [Jvm.Cond.code y bytes maxL ret] rm) (fun a' U => a' = argsL.toArray ∧ Z.Warmed39 U.vm ∧ U.heap = h ∧ PV U.vm) (fun _ _ _ _ _ => True) (fun _ U o U' => ∃ v L, o = .returned v ∧ QQ v U'.heap U'.vm L ∧ ReturnedEndW U o U' L rm.cells rm.slots)) (hI : ∀ vm1, (s.setVm vm0).WarmedH vm1 → PV vm1)
    (hf : rm.frames + 1 ≤ R.frames) (hl : W + (maxL + 11) + rm.locals ≤ R.locals) (eT : T.heap = h) (hc : cells + rm.cells ≤ R.cells) (hs : slots + rm.slots ≤ R.slots)
    {g : JFrame} (hg : g.method = m) (hsize : g.locals.size = c.maxLocals) (hlen : ∀ sig, parseMethodDescriptor y.desc = some sig → argsL.length = sig.parameters.length)
    (hstack : g.stack = argsL.reverse ++ rest) (hW : 2 * g.monitorRoom + (rest.map fun v => v.category).sum ≤ W) (hdg : decode c.code g.pc = .ok (.invokestatic index, 3)) :
    ∃ (v : Option Value) (T' : State) (L : List Loc), Stand p l e R (s.setVm T'.vm) m args below meth c T' (locs ++ L) (cells + rm.cells) (slots + rm.slots) ∧ s.Since T'.vm T'.heap.size ∧ Z.Warmed39 (s.setVm T'.vm).vm ∧ (s.setVm T'.vm).vm.findClass own = some m.cls ∧ QQ v T'.heap T'.vm L ∧
      ∀ target, Steps p.tables e below (T'.setTop { g with pc := g.pc + 3, stack := v.toList ++ rest }) target → Steps p.tables e below (T.setTop g) target := by
  obtain ⟨v, _, ⟨T', L', k', n'⟩, -, X', hS', hgr, ⟨Lc, hQ, l', y', z'⟩, st⟩ := callSS X hx (y := y) hown (mvT hZ w1) (mvT hZ w2) (mvT hZ w3) (mvT hZ w4) hy (own_backU (W := W) hM hZ hI w4 w3 hf hl) (g := g) hg hsize (argsL := argsL) (rest := rest) hlen hstack hW hdg (fun _ _ => ⟨rfl, eT, hc, hs⟩)
  dsimp only [Pt.U, Pt.locs, Pt.cells, Pt.slots] at X' l' y' z' st hQ hS' hgr
  subst l' y' z'
  exact ⟨v, T', Lc, X', foldS hS (by rw [eT]; exact hk0) hS' hgr, State.Warmed39.trans (t := s.setVm vm0) hZ hS'.1, by rw [show (s.setVm T'.vm).vm = T'.vm from rfl, hS'.1.alike.findClass]; exact hown, hQ, fun t k => st.trans k⟩
end Wide
end New
end Jvm.RoadKit
namespace Jvm.Pilot.@@N@@
open Jvm Jvm.ClassFile Sem Op Lib Jvm.Free Jvm.Stand Jvm.LawKit Jvm.RoadKit Bundle Jvm.Pilot.@@N@@.Jvm.D
theorem ww {Z : State} {a0 : Array Value} (hw : ∀ d ∈ tables_1, d.before a0 Z = true) (i : Nat) {d : Jvm.Cond} (h : tables_1[i]? = some d) : d.before a0 Z = true := hw _ (List.mem_of_getElem? h)
theorem pn_java_lang_String : plainName "java/lang/String" = true := by first | (simp [plainName, overriddenIn]; done) | decide +kernel
abbrev Sh0 (p0 : Addr) (p1 : Addr) (p2 : Int32) (p3 : Int32) : Array Slot := #[.val (.ref p0), .val (.ref p1), .val (.int p2), .val (.int p3), .val .null, .unset]
theorem d3_0 : decode jdk_42_method_149_code 0 = .ok (.aload_n 0, 1) := by decide +kernel
theorem d3_1 : decode jdk_42_method_149_code 1 = .ok (.invokespecial 1, 3) := by decide +kernel
theorem d3_4 : decode jdk_42_method_149_code 4 = .ok (.iload_n 3, 1) := by decide +kernel
theorem d3_5 : decode jdk_42_method_149_code 5 = .ok (.ifCond .ne 22, 3) := by decide +kernel
theorem d3_8 : decode jdk_42_method_149_code 8 = .ok (.aload_n 0, 1) := by decide +kernel
theorem d3_9 : decode jdk_42_method_149_code 9 = .ok (.ldc 7, 2) := by decide +kernel
theorem d3_11 : decode jdk_42_method_149_code 11 = .ok (.getfield 9, 3) := by decide +kernel
theorem d3_14 : decode jdk_42_method_149_code 14 = .ok (.putfield 9, 3) := by decide +kernel
theorem d3_17 : decode jdk_42_method_149_code 17 = .ok (.aload_n 0, 1) := by decide +kernel
theorem d3_18 : decode jdk_42_method_149_code 18 = .ok (.ldc 7, 2) := by decide +kernel
theorem d3_20 : decode jdk_42_method_149_code 20 = .ok (.getfield 15, 3) := by decide +kernel
theorem d3_23 : decode jdk_42_method_149_code 23 = .ok (.putfield 15, 3) := by decide +kernel
theorem d3_26 : decode jdk_42_method_149_code 26 = .ok (.return_, 1) := by decide +kernel
abbrev Y3 : MethodName := ⟨"java/lang/String", "<init>", "([CIILjava/lang/Void;)V"⟩
theorem d2_0 : decode jdk_42_method_3_code 0 = .ok (.aload_n 0, 1) := by decide +kernel
theorem d2_1 : decode jdk_42_method_3_code 1 = .ok (.aload_n 1, 1) := by decide +kernel
theorem d2_2 : decode jdk_42_method_3_code 2 = .ok (.iconst 0, 1) := by decide +kernel
theorem d2_3 : decode jdk_42_method_3_code 3 = .ok (.aload_n 1, 1) := by decide +kernel
theorem d2_4 : decode jdk_42_method_3_code 4 = .ok (.arraylength, 1) := by decide +kernel
theorem d2_5 : decode jdk_42_method_3_code 5 = .ok (.aconst_null, 1) := by decide +kernel
theorem pd_285bCIILjava2flang2fVoid3b29V : parseMethodDescriptor "([CIILjava/lang/Void;)V" = some ⟨[(.array .char), .int, .int, (.object "java/lang/Void")], none⟩ := by decide +kernel
theorem d2_6 : decode jdk_42_method_3_code 6 = .ok (.invokespecial 27, 3) := by decide +kernel
theorem d2_9 : decode jdk_42_method_3_code 9 = .ok (.return_, 1) := by decide +kernel
abbrev Y2 : MethodName := ⟨"java/lang/String", "<init>", "([C)V"⟩
theorem pn_com_example_relaystack_relaystack_OptionValuePinLaw : plainName "com/example/relaystack/relaystack/OptionValuePinLaw" = true := by first | (simp [plainName, overriddenIn]; done) | decide +kernel
abbrev Sh1 (p0 : Int32) (p1 : Int32) : Array Slot := #[.val (.int p0), .val (.int p1), .unset, .unset, .unset]
theorem d1_0 : decode method_2_code 0 = .ok (.iload_n 1, 1) := by decide +kernel
theorem d1_1 : decode method_2_code 1 = .ok (.sipush 255, 3) := by decide +kernel
theorem d1_4 : decode method_2_code 4 = .ok (.iand, 1) := by decide +kernel
theorem d1_5 : decode method_2_code 5 = .ok (.i2c, 1) := by decide +kernel
theorem d1_6 : decode method_2_code 6 = .ok (.istore_n 2, 1) := by decide +kernel
abbrev Sh2 (p0 : Int32) (p1 : Int32) (p2 : Int32) : Array Slot := #[.val (.int p0), .val (.int p1), .val (.int p2), .unset, .unset]
theorem d1_7 : decode method_2_code 7 = .ok (.iload_n 1, 1) := by decide +kernel
theorem d1_8 : decode method_2_code 8 = .ok (.bipush 8, 2) := by decide +kernel
theorem d1_10 : decode method_2_code 10 = .ok (.iushr, 1) := by decide +kernel
theorem d1_11 : decode method_2_code 11 = .ok (.sipush 255, 3) := by decide +kernel
theorem d1_14 : decode method_2_code 14 = .ok (.iand, 1) := by decide +kernel
theorem d1_15 : decode method_2_code 15 = .ok (.i2c, 1) := by decide +kernel
theorem d1_16 : decode method_2_code 16 = .ok (.istore_n 3, 1) := by decide +kernel
abbrev Sh3 (p0 : Int32) (p1 : Int32) (p2 : Int32) (p3 : Int32) : Array Slot := #[.val (.int p0), .val (.int p1), .val (.int p2), .val (.int p3), .unset]
theorem d1_17 : decode method_2_code 17 = .ok (.iload_n 1, 1) := by decide +kernel
theorem d1_18 : decode method_2_code 18 = .ok (.bipush 16, 2) := by decide +kernel
theorem d1_20 : decode method_2_code 20 = .ok (.iushr, 1) := by decide +kernel
theorem d1_21 : decode method_2_code 21 = .ok (.sipush 255, 3) := by decide +kernel
theorem d1_24 : decode method_2_code 24 = .ok (.iand, 1) := by decide +kernel
theorem d1_25 : decode method_2_code 25 = .ok (.i2c, 1) := by decide +kernel
theorem d1_26 : decode method_2_code 26 = .ok (.istore 4, 2) := by decide +kernel
abbrev Sh4 (p0 : Int32) (p1 : Int32) (p2 : Int32) (p3 : Int32) (p4 : Int32) : Array Slot := #[.val (.int p0), .val (.int p1), .val (.int p2), .val (.int p3), .val (.int p4)]
theorem d1_28 : decode method_2_code 28 = .ok (.iload_n 0, 1) := by decide +kernel
theorem d1_29 : decode method_2_code 29 = .ok (.ifCond .ne 14, 3) := by decide +kernel
theorem d1_32 : decode method_2_code 32 = .ok (.new 7, 3) := by decide +kernel
theorem d1_35 : decode method_2_code 35 = .ok (.dup, 1) := by decide +kernel
theorem d1_36 : decode method_2_code 36 = .ok (.iconst 0, 1) := by decide +kernel
theorem d1_37 : decode method_2_code 37 = .ok (.newarray .char, 2) := by decide +kernel
theorem pd_285bC29V : parseMethodDescriptor "([C)V" = some ⟨[(.array .char)], none⟩ := by decide +kernel
theorem d1_39 : decode method_2_code 39 = .ok (.invokespecial 9, 3) := by decide +kernel
theorem d1_42 : decode method_2_code 42 = .ok (.areturn, 1) := by decide +kernel
abbrev Y1 : MethodName := ⟨"com/example/relaystack/relaystack/OptionValuePinLaw", "drawn", "(II)Ljava/lang/String;"⟩
abbrev Sh5 (p0 : Int32) (p1 : Int32) (p2 : Int32) (p3 : Int32) (p4 : Int32) : Array Slot := #[.val (.int p0), .val (.int p1), .val (.int p2), .val (.int p3), .val (.int p4), .unset, .unset, .unset, .unset, .unset, .unset]
abbrev Sh6 (p0 : Int32) (p1 : Int32) (p2 : Int32) (p3 : Int32) (p4 : Int32) (p5 : Int32) : Array Slot := #[.val (.int p0), .val (.int p1), .val (.int p2), .val (.int p3), .val (.int p4), .val (.int p5), .unset, .unset, .unset, .unset, .unset]
abbrev Sh7 (p0 : Int32) (p1 : Int32) (p2 : Int32) (p3 : Int32) (p4 : Int32) (p5 : Int32) (p6 : Int32) : Array Slot := #[.val (.int p0), .val (.int p1), .val (.int p2), .val (.int p3), .val (.int p4), .val (.int p5), .val (.int p6), .unset, .unset, .unset, .unset]
theorem d1_43 : decode method_2_code 43 = .ok (.iload_n 0, 1) := by decide +kernel
theorem d1_44 : decode method_2_code 44 = .ok (.iconst 1, 1) := by decide +kernel
theorem d1_45 : decode method_2_code 45 = .ok (.if_icmp .ne 18, 3) := by decide +kernel
theorem d1_48 : decode method_2_code 48 = .ok (.new 7, 3) := by decide +kernel
theorem d1_51 : decode method_2_code 51 = .ok (.dup, 1) := by decide +kernel
theorem d1_52 : decode method_2_code 52 = .ok (.iconst 1, 1) := by decide +kernel
theorem d1_53 : decode method_2_code 53 = .ok (.newarray .char, 2) := by decide +kernel
theorem d1_55 : decode method_2_code 55 = .ok (.dup, 1) := by decide +kernel
theorem d1_56 : decode method_2_code 56 = .ok (.iconst 0, 1) := by decide +kernel
theorem d1_57 : decode method_2_code 57 = .ok (.iload_n 2, 1) := by decide +kernel
theorem d1_58 : decode method_2_code 58 = .ok (.castore, 1) := by decide +kernel
theorem d3_27 : decode jdk_42_method_149_code 27 = .ok (.getstatic 38, 3) := by decide +kernel
theorem d3_30 : decode jdk_42_method_149_code 30 = .ok (.ifCond .eq 28, 3) := by decide +kernel
theorem d3_33 : decode jdk_42_method_149_code 33 = .ok (.aload_n 1, 1) := by decide +kernel
theorem d3_34 : decode jdk_42_method_149_code 34 = .ok (.iload_n 2, 1) := by decide +kernel
theorem d3_35 : decode jdk_42_method_149_code 35 = .ok (.iload_n 3, 1) := by decide +kernel
theorem pn_java_lang_StringUTF16 : plainName "java/lang/StringUTF16" = true := by first | (simp [plainName, overriddenIn]; done) | decide +kernel
abbrev Sh8 (p0 : Addr) (p1 : Int32) (p2 : Int32) : Array Slot := #[.val (.ref p0), .val (.int p1), .val (.int p2), .unset, .unset, .unset]
theorem d5_0 : decode jdk_52_method_16_code 0 = .ok (.iload_n 2, 1) := by decide +kernel
theorem d5_1 : decode jdk_52_method_16_code 1 = .ok (.newarray .byte, 2) := by decide +kernel
theorem d5_3 : decode jdk_52_method_16_code 3 = .ok (.astore_n 3, 1) := by decide +kernel
abbrev Sh9 (p0 : Addr) (p1 : Int32) (p2 : Int32) (p3 : Addr) : Array Slot := #[.val (.ref p0), .val (.int p1), .val (.int p2), .val (.ref p3), .unset, .unset]
theorem d5_4 : decode jdk_52_method_16_code 4 = .ok (.aload_n 0, 1) := by decide +kernel
theorem d5_5 : decode jdk_52_method_16_code 5 = .ok (.iload_n 1, 1) := by decide +kernel
theorem d5_6 : decode jdk_52_method_16_code 6 = .ok (.aload_n 3, 1) := by decide +kernel
theorem d5_7 : decode jdk_52_method_16_code 7 = .ok (.iconst 0, 1) := by decide +kernel
theorem d5_8 : decode jdk_52_method_16_code 8 = .ok (.iload_n 2, 1) := by decide +kernel
abbrev Sh10 (p0 : Addr) (p1 : Int32) (p2 : Addr) (p3 : Int32) (p4 : Int32) : Array Slot := #[.val (.ref p0), .val (.int p1), .val (.ref p2), .val (.int p3), .val (.int p4), .unset, .unset]
theorem d6_0 : decode jdk_52_method_21_code 0 = .ok (.iconst 0, 1) := by decide +kernel
theorem d6_1 : decode jdk_52_method_21_code 1 = .ok (.istore 5, 2) := by decide +kernel
abbrev Sh11 (p0 : Addr) (p1 : Int32) (p2 : Addr) (p3 : Int32) (p4 : Int32) (p5 : Int32) : Array Slot := #[.val (.ref p0), .val (.int p1), .val (.ref p2), .val (.int p3), .val (.int p4), .val (.int p5), .unset]
theorem d6_3 : decode jdk_52_method_21_code 3 = .ok (.iload 5, 2) := by decide +kernel
theorem d6_5 : decode jdk_52_method_21_code 5 = .ok (.iload 4, 2) := by decide +kernel
theorem d6_7 : decode jdk_52_method_21_code 7 = .ok (.if_icmp .ge 37, 3) := by decide +kernel
theorem d6_10 : decode jdk_52_method_21_code 10 = .ok (.aload_n 0, 1) := by decide +kernel
theorem d6_11 : decode jdk_52_method_21_code 11 = .ok (.iload_n 1, 1) := by decide +kernel
theorem d6_12 : decode jdk_52_method_21_code 12 = .ok (.caload, 1) := by decide +kernel
theorem d6_13 : decode jdk_52_method_21_code 13 = .ok (.istore 6, 2) := by decide +kernel
abbrev Sh12 (p0 : Addr) (p1 : Int32) (p2 : Addr) (p3 : Int32) (p4 : Int32) (p5 : Int32) (p6 : Int32) : Array Slot := #[.val (.ref p0), .val (.int p1), .val (.ref p2), .val (.int p3), .val (.int p4), .val (.int p5), .val (.int p6)]
theorem d6_15 : decode jdk_52_method_21_code 15 = .ok (.iload 6, 2) := by decide +kernel
theorem d6_17 : decode jdk_52_method_21_code 17 = .ok (.sipush 255, 3) := by decide +kernel
theorem d6_20 : decode jdk_52_method_21_code 20 = .ok (.if_icmp .le 6, 3) := by decide +kernel
theorem d6_26 : decode jdk_52_method_21_code 26 = .ok (.aload_n 2, 1) := by decide +kernel
theorem d6_27 : decode jdk_52_method_21_code 27 = .ok (.iload_n 3, 1) := by decide +kernel
theorem d6_28 : decode jdk_52_method_21_code 28 = .ok (.iload 6, 2) := by decide +kernel
theorem d6_30 : decode jdk_52_method_21_code 30 = .ok (.i2b, 1) := by decide +kernel
theorem d6_31 : decode jdk_52_method_21_code 31 = .ok (.bastore, 1) := by decide +kernel
theorem d6_32 : decode jdk_52_method_21_code 32 = .ok (.iinc 1 1, 3) := by decide +kernel
theorem d6_35 : decode jdk_52_method_21_code 35 = .ok (.iinc 3 1, 3) := by decide +kernel
theorem d6_38 : decode jdk_52_method_21_code 38 = .ok (.iinc 5 1, 3) := by decide +kernel
theorem d6_41 : decode jdk_52_method_21_code 41 = .ok (.goto (-38), 3) := by decide +kernel
theorem d6_44 : decode jdk_52_method_21_code 44 = .ok (.iload 4, 2) := by decide +kernel
theorem d6_46 : decode jdk_52_method_21_code 46 = .ok (.ireturn, 1) := by decide +kernel
abbrev Y6 : MethodName := ⟨"java/lang/StringUTF16", "compress", "([CI[BII)I"⟩
theorem pd_285bCI5bBII29I : parseMethodDescriptor "([CI[BII)I" = some ⟨[(.array .char), .int, (.array .byte), .int, .int], some .int⟩ := by decide +kernel
theorem d5_9 : decode jdk_52_method_16_code 9 = .ok (.invokestatic 115, 3) := by decide +kernel
theorem d5_12 : decode jdk_52_method_16_code 12 = .ok (.istore 4, 2) := by decide +kernel
abbrev Sh13 (p0 : Addr) (p1 : Int32) (p2 : Int32) (p3 : Addr) (p4 : Int32) : Array Slot := #[.val (.ref p0), .val (.int p1), .val (.int p2), .val (.ref p3), .val (.int p4), .unset]
theorem d5_14 : decode jdk_52_method_16_code 14 = .ok (.iload 4, 2) := by decide +kernel
theorem d5_16 : decode jdk_52_method_16_code 16 = .ok (.iload_n 2, 1) := by decide +kernel
theorem d5_17 : decode jdk_52_method_16_code 17 = .ok (.if_icmp .eq 40, 3) := by decide +kernel
theorem d5_57 : decode jdk_52_method_16_code 57 = .ok (.aload_n 3, 1) := by decide +kernel
theorem d5_58 : decode jdk_52_method_16_code 58 = .ok (.areturn, 1) := by decide +kernel
abbrev Y5 : MethodName := ⟨"java/lang/StringUTF16", "compress", "([CII)[B"⟩
theorem pd_285bCII295bB : parseMethodDescriptor "([CII)[B" = some ⟨[(.array .char), .int, .int], some (.array .byte)⟩ := by decide +kernel
theorem d3_36 : decode jdk_42_method_149_code 36 = .ok (.invokestatic 177, 3) := by decide +kernel
theorem d3_39 : decode jdk_42_method_149_code 39 = .ok (.astore 5, 2) := by decide +kernel
abbrev Sh14 (p0 : Addr) (p1 : Addr) (p2 : Int32) (p3 : Int32) (p4 : Addr) : Array Slot := #[.val (.ref p0), .val (.ref p1), .val (.int p2), .val (.int p3), .val .null, .val (.ref p4)]
theorem d3_41 : decode jdk_42_method_149_code 41 = .ok (.aload_n 0, 1) := by decide +kernel
theorem d3_42 : decode jdk_42_method_149_code 42 = .ok (.aload 5, 2) := by decide +kernel
theorem d3_44 : decode jdk_42_method_149_code 44 = .ok (.iload_n 3, 1) := by decide +kernel
theorem d7_0 : decode jdk_52_method_15_code 0 = .ok (.iload_n 1, 1) := by decide +kernel
theorem d7_1 : decode jdk_52_method_15_code 1 = .ok (.aload_n 0, 1) := by decide +kernel
theorem d7_2 : decode jdk_52_method_15_code 2 = .ok (.arraylength, 1) := by decide +kernel
theorem d7_3 : decode jdk_52_method_15_code 3 = .ok (.isub, 1) := by decide +kernel
theorem d7_4 : decode jdk_52_method_15_code 4 = .ok (.bipush 31, 2) := by decide +kernel
theorem d7_6 : decode jdk_52_method_15_code 6 = .ok (.iushr, 1) := by decide +kernel
theorem d7_7 : decode jdk_52_method_15_code 7 = .ok (.i2b, 1) := by decide +kernel
theorem d7_8 : decode jdk_52_method_15_code 8 = .ok (.ireturn, 1) := by decide +kernel
abbrev Y7 : MethodName := ⟨"java/lang/StringUTF16", "coderFromArrayLen", "([BI)B"⟩
theorem pd_285bBI29B : parseMethodDescriptor "([BI)B" = some ⟨[(.array .byte), .int], some .byte⟩ := by decide +kernel
theorem d3_45 : decode jdk_42_method_149_code 45 = .ok (.invokestatic 47, 3) := by decide +kernel
theorem d3_48 : decode jdk_42_method_149_code 48 = .ok (.putfield 15, 3) := by decide +kernel
theorem d3_51 : decode jdk_42_method_149_code 51 = .ok (.aload_n 0, 1) := by decide +kernel
theorem d3_52 : decode jdk_42_method_149_code 52 = .ok (.aload 5, 2) := by decide +kernel
theorem d3_54 : decode jdk_42_method_149_code 54 = .ok (.putfield 9, 3) := by decide +kernel
theorem d3_57 : decode jdk_42_method_149_code 57 = .ok (.return_, 1) := by decide +kernel
theorem d1_59 : decode method_2_code 59 = .ok (.invokespecial 9, 3) := by decide +kernel
theorem d1_62 : decode method_2_code 62 = .ok (.areturn, 1) := by decide +kernel
theorem pd_28II29Ljava2flang2fString3b : parseMethodDescriptor "(II)Ljava/lang/String;" = some ⟨[.int, .int], some (.object "java/lang/String")⟩ := by decide +kernel
abbrev Sh15 (p0 : Int32) (p1 : Int32) (p2 : Int32) (p3 : Int32) (p4 : Int32) (p5 : Int32) (p6 : Int32) (p7 : Addr) : Array Slot := #[.val (.int p0), .val (.int p1), .val (.int p2), .val (.int p3), .val (.int p4), .val (.int p5), .val (.int p6), .val (.ref p7), .unset, .unset, .unset]
abbrev Sh16 (p0 : Int32) (p1 : Int32) (p2 : Int32) (p3 : Int32) (p4 : Int32) (p5 : Int32) (p6 : Int32) (p7 : Addr) (p8 : Addr) : Array Slot := #[.val (.int p0), .val (.int p1), .val (.int p2), .val (.int p3), .val (.int p4), .val (.int p5), .val (.int p6), .val (.ref p7), .val (.ref p8), .unset, .unset]
theorem pn_com_example_relaystack_relaystack_CommandLine_Option : plainName "com/example/relaystack/relaystack/CommandLine$Option" = true := by first | (simp [plainName, overriddenIn]; done) | decide +kernel
abbrev Sh17 (p0 : Addr) (p1 : Addr) (p2 : Addr) : Array Slot := #[.val (.ref p0), .val (.ref p1), .val (.ref p2)]
theorem d8_0 : decode prog_8_method_1_code 0 = .ok (.aload_n 0, 1) := by decide +kernel
theorem pn_java_lang_Record : plainName "java/lang/Record" = true := by first | (simp [plainName, overriddenIn]; done) | decide +kernel
theorem d9_0 : decode jdk_30_method_1_code 0 = .ok (.aload_n 0, 1) := by decide +kernel
theorem d9_1 : decode jdk_30_method_1_code 1 = .ok (.invokespecial 1, 3) := by decide +kernel
theorem d9_4 : decode jdk_30_method_1_code 4 = .ok (.return_, 1) := by decide +kernel
abbrev Y9 : MethodName := ⟨"java/lang/Record", "<init>", "()V"⟩
theorem pd_2829V : parseMethodDescriptor "()V" = some ⟨[], none⟩ := by decide +kernel
theorem d8_1 : decode prog_8_method_1_code 1 = .ok (.invokespecial 1, 3) := by decide +kernel
theorem d8_4 : decode prog_8_method_1_code 4 = .ok (.aload_n 0, 1) := by decide +kernel
theorem d8_5 : decode prog_8_method_1_code 5 = .ok (.aload_n 1, 1) := by decide +kernel
theorem d8_6 : decode prog_8_method_1_code 6 = .ok (.putfield 7, 3) := by decide +kernel
theorem d8_9 : decode prog_8_method_1_code 9 = .ok (.aload_n 0, 1) := by decide +kernel
theorem d8_10 : decode prog_8_method_1_code 10 = .ok (.aload_n 2, 1) := by decide +kernel
theorem d8_11 : decode prog_8_method_1_code 11 = .ok (.putfield 13, 3) := by decide +kernel
theorem d8_14 : decode prog_8_method_1_code 14 = .ok (.return_, 1) := by decide +kernel
abbrev Y8 : MethodName := ⟨"com/example/relaystack/relaystack/CommandLine$Option", "<init>", "(Ljava/lang/String;Ljava/lang/String;)V"⟩
theorem pd_28Ljava2flang2fString3bLjava2flang2fString3b29V : parseMethodDescriptor "(Ljava/lang/String;Ljava/lang/String;)V" = some ⟨[(.object "java/lang/String"), (.object "java/lang/String")], none⟩ := by decide +kernel
abbrev Sh18 (p0 : Int32) (p1 : Int32) (p2 : Int32) (p3 : Int32) (p4 : Int32) (p5 : Int32) (p6 : Int32) (p7 : Addr) (p8 : Addr) (p9 : Addr) : Array Slot := #[.val (.int p0), .val (.int p1), .val (.int p2), .val (.int p3), .val (.int p4), .val (.int p5), .val (.int p6), .val (.ref p7), .val (.ref p8), .val (.ref p9), .unset]
theorem d10_0 : decode prog_8_method_2_code 0 = .ok (.aload_n 0, 1) := by decide +kernel
theorem d10_1 : decode prog_8_method_2_code 1 = .ok (.getfield 13, 3) := by decide +kernel
theorem d10_4 : decode prog_8_method_2_code 4 = .ok (.ifnull 13, 3) := by decide +kernel
theorem d10_7 : decode prog_8_method_2_code 7 = .ok (.aload_n 0, 1) := by decide +kernel
theorem d10_8 : decode prog_8_method_2_code 8 = .ok (.getfield 13, 3) := by decide +kernel
theorem d11_0 : decode jdk_42_method_55_code 0 = .ok (.aload_n 0, 1) := by decide +kernel
theorem d11_1 : decode jdk_42_method_55_code 1 = .ok (.getfield 9, 3) := by decide +kernel
theorem d11_4 : decode jdk_42_method_55_code 4 = .ok (.arraylength, 1) := by decide +kernel
theorem d11_5 : decode jdk_42_method_55_code 5 = .ok (.ifCond .ne 7, 3) := by decide +kernel
theorem d11_12 : decode jdk_42_method_55_code 12 = .ok (.iconst 0, 1) := by decide +kernel
theorem d11_13 : decode jdk_42_method_55_code 13 = .ok (.ireturn, 1) := by decide +kernel
abbrev Y11 : MethodName := ⟨"java/lang/String", "isEmpty", "()Z"⟩
theorem pd_2829Z : parseMethodDescriptor "()Z" = some ⟨[], some .boolean⟩ := by decide +kernel
theorem d10_11 : decode prog_8_method_2_code 11 = .ok (.invokevirtual 16, 3) := by decide +kernel
theorem d10_14 : decode prog_8_method_2_code 14 = .ok (.ifCond .eq 20, 3) := by decide +kernel
theorem d10_34 : decode prog_8_method_2_code 34 = .ok (.aload_n 0, 1) := by decide +kernel
theorem d10_35 : decode prog_8_method_2_code 35 = .ok (.getfield 13, 3) := by decide +kernel
theorem d10_38 : decode prog_8_method_2_code 38 = .ok (.areturn, 1) := by decide +kernel
abbrev Y10 : MethodName := ⟨"com/example/relaystack/relaystack/CommandLine$Option", "value", "()Ljava/lang/String;"⟩
theorem pd_2829Ljava2flang2fString3b : parseMethodDescriptor "()Ljava/lang/String;" = some ⟨[], some (.object "java/lang/String")⟩ := by decide +kernel
abbrev Sh19 (p0 : Int32) (p1 : Int32) (p2 : Int32) (p3 : Int32) (p4 : Int32) (p5 : Int32) (p6 : Int32) (p7 : Addr) (p8 : Addr) (p9 : Addr) (p10 : Addr) : Array Slot := #[.val (.int p0), .val (.int p1), .val (.int p2), .val (.int p3), .val (.int p4), .val (.int p5), .val (.int p6), .val (.ref p7), .val (.ref p8), .val (.ref p9), .val (.ref p10)]
theorem d12_0 : decode jdk_42_method_54_code 0 = .ok (.aload_n 0, 1) := by decide +kernel
theorem d12_1 : decode jdk_42_method_54_code 1 = .ok (.getfield 9, 3) := by decide +kernel
theorem d12_4 : decode jdk_42_method_54_code 4 = .ok (.arraylength, 1) := by decide +kernel
theorem d12_5 : decode jdk_42_method_54_code 5 = .ok (.aload_n 0, 1) := by decide +kernel
theorem d13_0 : decode jdk_42_method_152_code 0 = .ok (.getstatic 38, 3) := by decide +kernel
theorem d13_3 : decode jdk_42_method_152_code 3 = .ok (.ifCond .eq 10, 3) := by decide +kernel
theorem d13_6 : decode jdk_42_method_152_code 6 = .ok (.aload_n 0, 1) := by decide +kernel
theorem d13_7 : decode jdk_42_method_152_code 7 = .ok (.getfield 15, 3) := by decide +kernel
theorem d13_10 : decode jdk_42_method_152_code 10 = .ok (.goto 4, 3) := by decide +kernel
theorem d13_14 : decode jdk_42_method_152_code 14 = .ok (.ireturn, 1) := by decide +kernel
abbrev Y13 : MethodName := ⟨"java/lang/String", "coder", "()B"⟩
theorem pd_2829B : parseMethodDescriptor "()B" = some ⟨[], some .byte⟩ := by decide +kernel
theorem d12_6 : decode jdk_42_method_54_code 6 = .ok (.invokevirtual 335, 3) := by decide +kernel
theorem d12_9 : decode jdk_42_method_54_code 9 = .ok (.ishr, 1) := by decide +kernel
theorem d12_10 : decode jdk_42_method_54_code 10 = .ok (.ireturn, 1) := by decide +kernel
abbrev Y12 : MethodName := ⟨"java/lang/String", "length", "()I"⟩
theorem pd_2829I : parseMethodDescriptor "()I" = some ⟨[], some .int⟩ := by decide +kernel
theorem d14_0 : decode jdk_42_method_56_code 0 = .ok (.aload_n 0, 1) := by decide +kernel
theorem d15_0 : decode jdk_42_method_154_code 0 = .ok (.getstatic 38, 3) := by decide +kernel
theorem d15_3 : decode jdk_42_method_154_code 3 = .ok (.ifCond .eq 14, 3) := by decide +kernel
theorem d15_6 : decode jdk_42_method_154_code 6 = .ok (.aload_n 0, 1) := by decide +kernel
theorem d15_7 : decode jdk_42_method_154_code 7 = .ok (.getfield 15, 3) := by decide +kernel
theorem d15_10 : decode jdk_42_method_154_code 10 = .ok (.ifCond .ne 7, 3) := by decide +kernel
theorem d15_13 : decode jdk_42_method_154_code 13 = .ok (.iconst 1, 1) := by decide +kernel
theorem d15_14 : decode jdk_42_method_154_code 14 = .ok (.goto 4, 3) := by decide +kernel
theorem d15_18 : decode jdk_42_method_154_code 18 = .ok (.ireturn, 1) := by decide +kernel
abbrev Y15 : MethodName := ⟨"java/lang/String", "isLatin1", "()Z"⟩
theorem d14_1 : decode jdk_42_method_56_code 1 = .ok (.invokevirtual 492, 3) := by decide +kernel
theorem d14_4 : decode jdk_42_method_56_code 4 = .ok (.ifCond .eq 12, 3) := by decide +kernel
theorem d14_7 : decode jdk_42_method_56_code 7 = .ok (.aload_n 0, 1) := by decide +kernel
theorem d14_8 : decode jdk_42_method_56_code 8 = .ok (.getfield 9, 3) := by decide +kernel
theorem d14_11 : decode jdk_42_method_56_code 11 = .ok (.iload_n 1, 1) := by decide +kernel
theorem pn_java_lang_StringLatin1 : plainName "java/lang/StringLatin1" = true := by first | (simp [plainName, overriddenIn]; done) | decide +kernel
theorem d16_0 : decode jdk_43_method_2_code 0 = .ok (.iload_n 1, 1) := by decide +kernel
theorem d16_1 : decode jdk_43_method_2_code 1 = .ok (.aload_n 0, 1) := by decide +kernel
theorem d16_2 : decode jdk_43_method_2_code 2 = .ok (.arraylength, 1) := by decide +kernel
theorem d17_0 : decode jdk_42_method_155_code 0 = .ok (.iload_n 0, 1) := by decide +kernel
theorem d17_1 : decode jdk_42_method_155_code 1 = .ok (.iload_n 1, 1) := by decide +kernel
theorem d17_2 : decode jdk_42_method_155_code 2 = .ok (.getstatic 1053, 3) := by decide +kernel
theorem pn_jdk_internal_util_Preconditions : plainName "jdk/internal/util/Preconditions" = true := by first | (simp [plainName, overriddenIn]; done) | decide +kernel
abbrev Sh20 (p0 : Int32) (p1 : Int32) : Array Slot := #[.val (.int p0), .val (.int p1), .val .null]
theorem d18_0 : decode jdk_41_method_11_code 0 = .ok (.iload_n 0, 1) := by decide +kernel
theorem d18_1 : decode jdk_41_method_11_code 1 = .ok (.ifCond .lt 8, 3) := by decide +kernel
theorem d18_4 : decode jdk_41_method_11_code 4 = .ok (.iload_n 0, 1) := by decide +kernel
theorem d18_5 : decode jdk_41_method_11_code 5 = .ok (.iload_n 1, 1) := by decide +kernel
theorem d18_6 : decode jdk_41_method_11_code 6 = .ok (.if_icmp .lt 10, 3) := by decide +kernel
theorem d18_16 : decode jdk_41_method_11_code 16 = .ok (.iload_n 0, 1) := by decide +kernel
theorem d18_17 : decode jdk_41_method_11_code 17 = .ok (.ireturn, 1) := by decide +kernel
abbrev Y18 : MethodName := ⟨"jdk/internal/util/Preconditions", "checkIndex", "(IILjava/util/function/BiFunction;)I"⟩
theorem pd_28IILjava2futil2ffunction2fBiFunction3b29I : parseMethodDescriptor "(IILjava/util/function/BiFunction;)I" = some ⟨[.int, .int, (.object "java/util/function/BiFunction")], some .int⟩ := by decide +kernel
theorem d17_5 : decode jdk_42_method_155_code 5 = .ok (.invokestatic 1059, 3) := by decide +kernel
theorem d17_8 : decode jdk_42_method_155_code 8 = .ok (.pop, 1) := by decide +kernel
theorem d17_9 : decode jdk_42_method_155_code 9 = .ok (.return_, 1) := by decide +kernel
abbrev Y17 : MethodName := ⟨"java/lang/String", "checkIndex", "(II)V"⟩
theorem pd_28II29V : parseMethodDescriptor "(II)V" = some ⟨[.int, .int], none⟩ := by decide +kernel
theorem d16_3 : decode jdk_43_method_2_code 3 = .ok (.invokestatic 9, 3) := by decide +kernel
theorem d16_6 : decode jdk_43_method_2_code 6 = .ok (.aload_n 0, 1) := by decide +kernel
theorem d16_7 : decode jdk_43_method_2_code 7 = .ok (.iload_n 1, 1) := by decide +kernel
theorem d16_8 : decode jdk_43_method_2_code 8 = .ok (.baload, 1) := by decide +kernel
theorem d16_9 : decode jdk_43_method_2_code 9 = .ok (.sipush 255, 3) := by decide +kernel
theorem d16_12 : decode jdk_43_method_2_code 12 = .ok (.iand, 1) := by decide +kernel
theorem d16_13 : decode jdk_43_method_2_code 13 = .ok (.i2c, 1) := by decide +kernel
theorem d16_14 : decode jdk_43_method_2_code 14 = .ok (.ireturn, 1) := by decide +kernel
abbrev Y16 : MethodName := ⟨"java/lang/StringLatin1", "charAt", "([BI)C"⟩
theorem pd_285bBI29C : parseMethodDescriptor "([BI)C" = some ⟨[(.array .byte), .int], some .char⟩ := by decide +kernel
theorem d14_12 : decode jdk_42_method_56_code 12 = .ok (.invokestatic 495, 3) := by decide +kernel
theorem d14_15 : decode jdk_42_method_56_code 15 = .ok (.ireturn, 1) := by decide +kernel
abbrev Y14 : MethodName := ⟨"java/lang/String", "charAt", "(I)C"⟩
theorem pd_28I29C : parseMethodDescriptor "(I)C" = some ⟨[.int], some .char⟩ := by decide +kernel
abbrev Sh21 (p0 : Int32) (p1 : Int32) (p2 : Addr) : Array Slot := #[.val (.int p0), .val (.int p1), .val (.ref p2)]
theorem d1_63 : decode method_2_code 63 = .ok (.iload_n 0, 1) := by decide +kernel
theorem d1_64 : decode method_2_code 64 = .ok (.iconst 2, 1) := by decide +kernel
theorem d1_65 : decode method_2_code 65 = .ok (.if_icmp .ne 22, 3) := by decide +kernel
theorem d1_68 : decode method_2_code 68 = .ok (.new 7, 3) := by decide +kernel
theorem d1_71 : decode method_2_code 71 = .ok (.dup, 1) := by decide +kernel
theorem d1_72 : decode method_2_code 72 = .ok (.iconst 2, 1) := by decide +kernel
theorem d1_73 : decode method_2_code 73 = .ok (.newarray .char, 2) := by decide +kernel
theorem d1_75 : decode method_2_code 75 = .ok (.dup, 1) := by decide +kernel
theorem d1_76 : decode method_2_code 76 = .ok (.iconst 0, 1) := by decide +kernel
theorem d1_77 : decode method_2_code 77 = .ok (.iload_n 2, 1) := by decide +kernel
theorem d1_78 : decode method_2_code 78 = .ok (.castore, 1) := by decide +kernel
theorem d1_79 : decode method_2_code 79 = .ok (.dup, 1) := by decide +kernel
theorem d1_80 : decode method_2_code 80 = .ok (.iconst 1, 1) := by decide +kernel
theorem d1_81 : decode method_2_code 81 = .ok (.iload_n 3, 1) := by decide +kernel
theorem d1_82 : decode method_2_code 82 = .ok (.castore, 1) := by decide +kernel
theorem d1_83 : decode method_2_code 83 = .ok (.invokespecial 9, 3) := by decide +kernel
theorem d1_86 : decode method_2_code 86 = .ok (.areturn, 1) := by decide +kernel
theorem d1_87 : decode method_2_code 87 = .ok (.new 7, 3) := by decide +kernel
theorem d1_90 : decode method_2_code 90 = .ok (.dup, 1) := by decide +kernel
theorem d1_91 : decode method_2_code 91 = .ok (.iconst 3, 1) := by decide +kernel
theorem d1_92 : decode method_2_code 92 = .ok (.newarray .char, 2) := by decide +kernel
theorem d1_94 : decode method_2_code 94 = .ok (.dup, 1) := by decide +kernel
theorem d1_95 : decode method_2_code 95 = .ok (.iconst 0, 1) := by decide +kernel
theorem d1_96 : decode method_2_code 96 = .ok (.iload_n 2, 1) := by decide +kernel
theorem d1_97 : decode method_2_code 97 = .ok (.castore, 1) := by decide +kernel
theorem d1_98 : decode method_2_code 98 = .ok (.dup, 1) := by decide +kernel
theorem d1_99 : decode method_2_code 99 = .ok (.iconst 1, 1) := by decide +kernel
theorem d1_100 : decode method_2_code 100 = .ok (.iload_n 3, 1) := by decide +kernel
theorem d1_101 : decode method_2_code 101 = .ok (.castore, 1) := by decide +kernel
theorem d1_102 : decode method_2_code 102 = .ok (.dup, 1) := by decide +kernel
theorem d1_103 : decode method_2_code 103 = .ok (.iconst 2, 1) := by decide +kernel
theorem d1_104 : decode method_2_code 104 = .ok (.iload 4, 2) := by decide +kernel
theorem d1_106 : decode method_2_code 106 = .ok (.castore, 1) := by decide +kernel
theorem d1_107 : decode method_2_code 107 = .ok (.invokespecial 9, 3) := by decide +kernel
theorem d1_110 : decode method_2_code 110 = .ok (.areturn, 1) := by decide +kernel
abbrev Sh22 (p0 : Int32) (p1 : Int32) (p2 : Int32) (p3 : Int32) (p4 : Int32) (p5 : Int32) (p6 : Int32) (p7 : Addr) : Array Slot := #[.val (.int p0), .val (.int p1), .val (.int p2), .val (.int p3), .val (.int p4), .val (.int p5), .val (.int p6), .val (.ref p7), .val .null, .unset, .unset]
abbrev Sh23 (p0 : Addr) (p1 : Addr) : Array Slot := #[.val (.ref p0), .val .null, .val (.ref p1)]
abbrev Sh24 (p0 : Int32) (p1 : Int32) (p2 : Int32) (p3 : Int32) (p4 : Int32) (p5 : Int32) (p6 : Int32) (p7 : Addr) (p8 : Addr) : Array Slot := #[.val (.int p0), .val (.int p1), .val (.int p2), .val (.int p3), .val (.int p4), .val (.int p5), .val (.int p6), .val (.ref p7), .val .null, .val (.ref p8), .unset]
abbrev Sh25 (p0 : Int32) (p1 : Int32) (p2 : Int32) (p3 : Int32) (p4 : Int32) (p5 : Int32) (p6 : Int32) (p7 : Addr) (p8 : Addr) (p9 : Addr) : Array Slot := #[.val (.int p0), .val (.int p1), .val (.int p2), .val (.int p3), .val (.int p4), .val (.int p5), .val (.int p6), .val (.ref p7), .val .null, .val (.ref p8), .val (.ref p9)]
theorem own_wS {Z : State} {a0 : Array Value} (hw : ∀ d ∈ tables_1, d.before a0 Z = true) : ∀ a ∈ Bundle.stringAtoms, a.before a0 Z = true := fun d hd => by
  simp only [Bundle.stringAtoms, List.mem_cons, List.not_mem_nil, or_false] at hd
  rcases hd with rfl | rfl | rfl | rfl | rfl | rfl | rfl
  · exact (ww hw 7 rfl)
  · exact (ww hw 6 rfl)
  · exact (ww hw 24 rfl)
  · exact (ww hw 34 rfl)
  · exact (ww hw 32 rfl)
  · exact (ww hw 94 rfl)
  · exact (ww hw 95 rfl)
def lat8 (c : Int32) : Int32 := nar .byte c.toInt8.toInt32
theorem own_nc (c : Int32) (h0 : ¬ c < (0 : Int32)) (h1 : ¬ (65535 : Int32) < c) : nar .char c = c := by
  have a := c_i2c c
  rw [Int32.lt_iff_toInt_lt] at h0 h1
  have e1 : (65535 : Int32).toInt = 65535 := by decide
  have e0 : (0 : Int32).toInt = 0 := by decide
  apply Int32.toInt_inj.mp
  show (c.toUInt32.toUInt16.toUInt32.toInt32).toInt = c.toInt
  omega
theorem own_b8 (x : Int32) : (nar .byte x.toInt8.toInt32 &&& (255 : Int32)).toInt = x.toInt % 256 := by
  have a := c_i2b x
  have b := c_i2b x.toInt8.toInt32
  have c := c_mask (nar .byte x.toInt8.toInt32) 255 8 (by decide) (by decide)
  change (nar .byte x.toInt8.toInt32 &&& (255 : Int32)).toInt = (x.toInt8.toInt32.toInt8.toInt32).toInt % 256 at c
  omega
theorem own_lat (c : Int32) (h0 : ¬ c < (0 : Int32)) (h1 : ¬ (255 : Int32) < c) : nar .char ((lat8 c) &&& (255 : Int32)).toUInt32.toUInt16.toUInt32.toInt32 = c := by
  have b := own_b8 c
  have a := c_i2c ((lat8 c) &&& (255 : Int32))
  have a2 := c_i2c (((lat8 c) &&& (255 : Int32)).toUInt32.toUInt16.toUInt32.toInt32)
  rw [Int32.lt_iff_toInt_lt] at h0 h1
  have e1 : (255 : Int32).toInt = 255 := by decide
  have e0 : (0 : Int32).toInt = 0 := by decide
  apply Int32.toInt_inj.mp
  change (lat8 c &&& (255 : Int32)).toInt = c.toInt % 256 at b
  show (((lat8 c) &&& (255 : Int32)).toUInt32.toUInt16.toUInt32.toInt32.toUInt32.toUInt16.toUInt32.toInt32).toInt = c.toInt
  omega
def chA (x : Int32) : Int32 := nar .char (x &&& (255 : Int32)).toUInt32.toUInt16.toUInt32.toInt32
def chB (x : Int32) : Int32 := nar .char ((x.toUInt32 >>> ((8 : Int32) &&& 31).toUInt32).toInt32 &&& (255 : Int32)).toUInt32.toUInt16.toUInt32.toInt32
def chC (x : Int32) : Int32 := nar .char ((x.toUInt32 >>> ((16 : Int32) &&& 31).toUInt32).toInt32 &&& (255 : Int32)).toUInt32.toUInt16.toUInt32.toInt32
theorem own_chm (y : Int32) : nar .char (y &&& (255 : Int32)).toUInt32.toUInt16.toUInt32.toInt32 = (y &&& (255 : Int32)).toUInt32.toUInt16.toUInt32.toInt32 := by
  rw [i2c_mask]; exact i2c_mask y
theorem own_chr (y : Int32) : ¬ (nar .char (y &&& (255 : Int32)).toUInt32.toUInt16.toUInt32.toInt32 < (0 : Int32)) ∧ ¬ ((255 : Int32) < nar .char (y &&& (255 : Int32)).toUInt32.toUInt16.toUInt32.toInt32) := by
  rw [own_chm, i2c_mask, Int32.lt_iff_toInt_lt, Int32.lt_iff_toInt_lt]
  have h := c_and y 255 (by decide)
  have e1 : (255 : Int32).toInt = 255 := by decide
  have e0 : (0 : Int32).toInt = 0 := by decide
  omega
theorem own_cA (x : Int32) : (x &&& (255 : Int32)).toUInt32.toUInt16.toUInt32.toInt32 = chA x := (own_chm _).symm
theorem own_cB (x : Int32) : ((x.toUInt32 >>> ((8 : Int32) &&& 31).toUInt32).toInt32 &&& (255 : Int32)).toUInt32.toUInt16.toUInt32.toInt32 = chB x := (own_chm _).symm
theorem own_cC (x : Int32) : ((x.toUInt32 >>> ((16 : Int32) &&& 31).toUInt32).toInt32 &&& (255 : Int32)).toUInt32.toUInt16.toUInt32.toInt32 = chC x := (own_chm _).symm
theorem own_rA (x : Int32) : ¬ (chA x < (0 : Int32)) ∧ ¬ ((255 : Int32) < chA x) := own_chr _
theorem own_rB (x : Int32) : ¬ (chB x < (0 : Int32)) ∧ ¬ ((255 : Int32) < chB x) := own_chr _
theorem own_rC (x : Int32) : ¬ (chC x < (0 : Int32)) ∧ ¬ ((255 : Int32) < chC x) := own_chr _
theorem own_back (c : Int32) (h : ¬ (c < (0 : Int32)) ∧ ¬ ((255 : Int32) < c)) : nar .char (nar .char ((lat8 c) &&& (255 : Int32)).toUInt32.toUInt16.toUInt32.toInt32) = c := by
  rw [own_lat c h.1 h.2]
  refine own_nc c h.1 fun q => h.2 ?_
  rw [Int32.lt_iff_toInt_lt] at q ⊢
  have e1 : (255 : Int32).toInt = 255 := by decide
  have e0 : (65535 : Int32).toInt = 65535 := by decide
  omega
theorem own_mod3 (q : Int32) : ((1 : Int32) + ((q &&& (2147483647 : Int32)) % (3 : Int32))) = (1 : Int32) ∨ ((1 : Int32) + ((q &&& (2147483647 : Int32)) % (3 : Int32))) = (2 : Int32) ∨ ((1 : Int32) + ((q &&& (2147483647 : Int32)) % (3 : Int32))) = (3 : Int32) := by
  have h1 := c_and q 2147483647 (by decide)
  generalize q &&& (2147483647 : Int32) = u at *
  have h2 := (c_irem u 3 3 rfl).1 h1.1
  have e : (u % 3).toInt = 0 ∨ (u % 3).toInt = 1 ∨ (u % 3).toInt = 2 := by omega
  rcases e with e | e | e
  · rw [show u % 3 = 0 from Int32.toInt_inj.mp e]; decide
  · rw [show u % 3 = 1 from Int32.toInt_inj.mp e]; decide
  · rw [show u % 3 = 2 from Int32.toInt_inj.mp e]; decide
theorem own_mod4 (q : Int32) : ((q &&& (2147483647 : Int32)) % (4 : Int32)) = (0 : Int32) ∨ ((q &&& (2147483647 : Int32)) % (4 : Int32)) = (1 : Int32) ∨ ((q &&& (2147483647 : Int32)) % (4 : Int32)) = (2 : Int32) ∨ ((q &&& (2147483647 : Int32)) % (4 : Int32)) = (3 : Int32) := by
  have h1 := c_and q 2147483647 (by decide)
  generalize q &&& (2147483647 : Int32) = u at *
  have h2 := (c_irem u 4 4 rfl).1 h1.1
  have e : (u % 4).toInt = 0 ∨ (u % 4).toInt = 1 ∨ (u % 4).toInt = 2 ∨ (u % 4).toInt = 3 := by omega
  rcases e with e | e | e | e
  · exact Or.inl (Int32.toInt_inj.mp e)
  · exact Or.inr (Or.inl (Int32.toInt_inj.mp e))
  · exact Or.inr (Or.inr (Or.inl (Int32.toInt_inj.mp e)))
  · exact Or.inr (Or.inr (Or.inr (Int32.toInt_inj.mp e)))
def QE2 (Z : State) (a1 : Addr) (a2 : Addr) (h0 : Heap) (n0 : Nat) (v : Option Value) (h : Heap) (vm : Vm) (L : List Loc) : Prop := v = none ∧ Fr n0 L ∧ (Keep h0 h [a1])
theorem ef3_rmE2 (m : MethodId) (a1 : Addr) (a2 : Addr) : entryFrame m #[(.ref a1), (.ref a2), (.int (0 : Int32)), (.int (0 : Int32)), .null] 6 = (mkF m 0 #[.val (.ref a1), .val (.ref a2), .val (.int 0), .val (.int 0), .val .null, .unset] []) := by first | (simp [entryFrame, mkF, argsToLocals, Value.category, maxLocals]; done) | rfl
set_option maxRecDepth 65536 in
set_option maxHeartbeats 40000000 in
theorem rmE2 (l : Launch) (Z : State) (a0 : Array Value) (hw : ∀ d ∈ tables_1, d.before a0 Z = true) (ws : List Jvm.Cond) (a1 : Addr) (a2 : Addr)  (h0 : Heap) (n0 : Nat) (Z0 : n0 ≤ h0.size) (P0 : Exa Z h0 a1 "java/lang/String") (P1 : Fld Z h0 a1 "java/lang/String" "value" "[B" .null) (P2 : Fld Z h0 a1 "java/lang/String" "coder" "B" (.int (0 : Int32))) (g_a1 : n0 ≤ a1)     (O0 : Old Z n0 h0) (hc_7 : Jvm.Lit.constHeld Z "java/lang/String" 7) (hcw : Jvm.Lit.compactW.before a0 Z = true) :
    MetFree l Y3 (head1 (Jvm.Cond.code Y3 jdk_42_method_149_code 6 none :: ws) ({ frames := 1, cells := 2, slots := 4, locals := 12 } : Room)) (fun a U => a = #[(.ref a1), (.ref a2), (.int (0 : Int32)), (.int (0 : Int32)), .null] ∧ Z.Warmed39 U.vm ∧ U.heap = h0 ∧ IB Z U.vm []) (fun _ _ _ _ _ => True) (fun _ U o U' => ∃ v L, o = .returned v ∧ (QE2 Z a1 a2 h0 n0) v U'.heap U'.vm L ∧ ReturnedEndW U o U' L 2 4) := by
 refine MetFree.of_bodySF (plainFor_of_name pn_java_lang_String) hisR ?_
 intro p e s m args below meth c s₁ Bd hml0 hP hK
 obtain ⟨rfl, hZ, hh, I0⟩ := hP
 have hkeep : ∀ (b : Addr) (cl : Cell), Z.heap[b]? = some cl → s.heap[b]? = some cl := fun b cl q => by rw [hh]; exact O0.2.2 b cl q
 have wSt := own_wS hw
 have hS0 : s.Since s.vm 0 := (State.WarmedH.refl s).since 0
 have hx := Bd.exec
 have hby := Bd.bytes
 have hml : c.maxLocals = 6 := hml0
 have hown : s.vm.findClass "java/lang/String" = some m.cls := findClass_of_methodNamed Bd.named
 have hnm := (name_of_methodNamed Bd.named Bd.method).1
 have X0 : Stand p l e ({ frames := 1, cells := 2, slots := 4, locals := 12 } : Room) (s.setVm s.vm) m #[(.ref a1), (.ref a2), (.int (0 : Int32)), (.int (0 : Int32)), .null] below meth c s₁ [] 0 0 := Stand.of_body Bd
 have e0 : s₁.heap = h0 := by rw [← hh, Bd.state]; rfl
 have N0 := Fr.nil n0
 refine GoU.mk ?_
 refine GoU.st (fun t k => castTop (ef3_rmE2 m a1 a2) k) ?_
 show GoU p e below s (QE2 Z a1 a2 h0 n0) 2 4 (s₁.setTop (mkF m 0 (Sh0 a1 a2 0 0) []))
 refine GoU.sg (mkF m 1 (Sh0 a1 a2 0 0) [(.ref a1)]) (fun t k => XS.aloadN X0.here hx rfl (hb hby d3_0) rfl rfl k) ?_
 obtain ⟨T1, X1, e1, st1⟩ := initO X0 hx hZ hown (ww hw 16 rfl) (ww hw 17 rfl) (ww hw 18 rfl) e0 (g := (mkF m 1 (Sh0 a1 a2 0 0) [(.ref a1)])) rfl (by rw [hml]; rfl) rfl (hb hby d3_1) (by decide) (W := 0) (by show 2 * 0 + _ ≤ _; exact Nat.le_of_eq rfl) (by decide)
 refine GoU.sg (mkF m 4 (Sh0 a1 a2 0 0) []) (fun t k => st1 t k) ?_
 refine GoU.sg (mkF m 5 (Sh0 a1 a2 0 0) [(.int 0)]) (fun t k => XS.iloadN X1.here hx rfl (hb hby d3_4) rfl k) ?_
 refine GoU.sg (mkF m 8 (Sh0 a1 a2 0 0) []) (fun t k => XS.ifNo X1.here hx rfl (hb hby d3_5) rfl (by decide) k) ?_
 refine GoU.sg (mkF m 9 (Sh0 a1 a2 0 0) [(.ref a1)]) (fun t k => XS.aloadN X1.here hx rfl (hb hby d3_8) rfl rfl k) ?_
 obtain ⟨la2, T2, h2, k2, lb2, kc2, X2, e2, E2, hS2, hk2, hZ2, hown2, LE2, LC2, LV2, LA2, -, -, I2, LL2, st2⟩ := ldcSVL X1 hx hZ hown (ww hw 93 rfl) wSt e1 hS0 (Nat.zero_le _) (N := (Fr.nil _)) hkeep I0 (by decide) hc_7 hcw (vs := []) (z := (0 : Int32)) ⟨by decide, by decide⟩ (by decide) (by decide) (g := (mkF m 9 (Sh0 a1 a2 0 0) [(.ref a1)])) rfl (hb hby d3_9) (n := 0) (by decide) (by decide) (by decide) (by decide)
 have f2_1 := P0.ext E2
 have f2_2 := P1.ext E2
 have f2_3 := P2.ext E2
 have f2_4 := (Keep.refl h0 [a1]).ext E2
 refine GoU.sg (mkF m 11 (Sh0 a1 a2 0 0) [(.ref la2), (.ref a1)]) (fun t k => st2 t k) ?_
 obtain ⟨T3, X3, e3, st3⟩ := getF X2 hx hZ2 hown2 (host := "") (Or.inl (ww hw 33 rfl)) Via.refl e2 LV2 (g := (mkF m 11 (Sh0 a1 a2 0 0) [(.ref la2), (.ref a1)])) rfl rfl (hb hby d3_11)
 refine GoU.sg (mkF m 14 (Sh0 a1 a2 0 0) [(.ref lb2), (.ref a1)]) (fun t k => st3 t k) ?_
 have ne_la : la2 ≠ a1 := Fld.ne LV2 f2_2 (by simp)
 obtain ⟨T4, h4, X4, e4, W4, st4⟩ := putF X3 hx hZ2 hown2 (host := "") (Or.inl (ww hw 33 rfl)) Via.refl e3 f2_2 f2_1 (Or.inr ⟨(ww hw 34 rfl), rfl, hnm⟩) (ww hw 6 rfl) (ty := (.array .byte)) (by decide) rfl rfl (g := (mkF m 14 (Sh0 a1 a2 0 0) [(.ref lb2), (.ref a1)])) rfl rfl (hb hby d3_14)
 have N4 := Fr.snoc X4 N0 g_a1
 have f4_7 := f2_1.wr W4
 have f4_8 := f2_3.other W4 (Or.inr (slot_ne (t := .byte) (t' := (.array .byte)) (Or.inr (ww hw 32 rfl)) (Or.inr (ww hw 34 rfl)) (by decide) (by decide) (by decide)))
 have f4_9 := f2_4.wr W4 (Or.inl (List.mem_of_getElem? (i := 0) rfl))
 have f4_12 := Nat.le_trans hk2 (Nat.le_of_eq W4.size.symm)
 have f4_14 := LC2.other W4 (Or.inl ne_la)
 refine GoU.sg (mkF m 17 (Sh0 a1 a2 0 0) []) (fun t k => st4 t k) ?_
 refine GoU.sg (mkF m 18 (Sh0 a1 a2 0 0) [(.ref a1)]) (fun t k => XS.aloadN X4.here hx rfl (hb hby d3_17) rfl rfl k) ?_
 refine GoU.sg (mkF m 20 (Sh0 a1 a2 0 0) [(.ref la2), (.ref a1)]) (fun t k => ldcAgain X4 hx hZ2 hown2 (ww hw 93 rfl) LL2 (g := (mkF m 18 (Sh0 a1 a2 0 0) [(.ref a1)])) rfl (hb hby d3_18) t k) ?_
 obtain ⟨T6, X6, e6, st6⟩ := getF X4 hx hZ2 hown2 (host := "") (Or.inl (ww hw 31 rfl)) Via.refl e4 f4_14 (g := (mkF m 20 (Sh0 a1 a2 0 0) [(.ref la2), (.ref a1)])) rfl rfl (hb hby d3_20)
 refine GoU.sg (mkF m 23 (Sh0 a1 a2 0 0) [(.int 0), (.ref a1)]) (fun t k => st6 t k) ?_
 obtain ⟨T7, h7, X7, e7, W7, st7⟩ := putF X6 hx hZ2 hown2 (host := "") (Or.inl (ww hw 31 rfl)) Via.refl e6 f4_8 f4_7 (Or.inr ⟨(ww hw 32 rfl), rfl, hnm⟩) (ww hw 6 rfl) (ty := .byte) (by decide) rfl rfl (g := (mkF m 23 (Sh0 a1 a2 0 0) [(.int 0), (.ref a1)])) rfl rfl (hb hby d3_23)
 have N7 := Fr.snoc X7 N4 g_a1
 have f7_18 := f4_9.wr W7 (Or.inl (List.mem_of_getElem? (i := 0) rfl))
 have f7_21 := Nat.le_trans f4_12 (Nat.le_of_eq W7.size.symm)
 refine GoU.sg (mkF m 26 (Sh0 a1 a2 0 0) []) (fun t k => st7 t k) ?_
 refine GoU.retV X7 hS2 (by rw [e7]; exact f7_21) hx Bd.returns (hb hby d3_26) Bd.notSynchronized ?_ (by decide) (by decide)
 rw [e7]
 exact ⟨rfl, N7, f7_18⟩
def QE1 (Z : State) (a1 : Addr) (a2 : Addr) (ka2 : ClassId) (h0 : Heap) (n0 : Nat) (v : Option Value) (h : Heap) (vm : Vm) (L : List Loc) : Prop := v = none ∧ Fr n0 L ∧ (Keep h0 h [a1])
theorem ef2_rmE1 (m : MethodId) (a1 : Addr) (a2 : Addr) : entryFrame m #[(.ref a1), (.ref a2)] 2 = (mkF m 0 #[.val (.ref a1), .val (.ref a2)] []) := by first | (simp [entryFrame, mkF, argsToLocals, Value.category, maxLocals]; done) | rfl
set_option maxRecDepth 65536 in
set_option maxHeartbeats 40000000 in
theorem rmE1 (l : Launch) (Z : State) (a0 : Array Value) (hw : ∀ d ∈ tables_1, d.before a0 Z = true) (ws : List Jvm.Cond) (a1 : Addr) (a2 : Addr) (ka2 : ClassId) (h0 : Heap) (n0 : Nat) (Z0 : n0 ≤ h0.size) (P0 : Exa Z h0 a1 "java/lang/String") (P1 : Fld Z h0 a1 "java/lang/String" "value" "[B" .null) (P2 : Fld Z h0 a1 "java/lang/String" "coder" "B" (.int (0 : Int32))) (P3 : Arv Z h0 a2 ka2 .char (0 : Int32) [] (.int (0 : Int32))) (g_a1 : n0 ≤ a1) (ne_a1_a2 : a1 ≠ a2)    (O0 : Old Z n0 h0) (hc_7 : Jvm.Lit.constHeld Z "java/lang/String" 7) (hcw : Jvm.Lit.compactW.before a0 Z = true) :
    MetFree l Y2 (head1 (Jvm.Cond.code Y2 jdk_42_method_3_code 2 none :: ws) ({ frames := 2, cells := 2, slots := 4, locals := 29 } : Room)) (fun a U => a = #[(.ref a1), (.ref a2)] ∧ Z.Warmed39 U.vm ∧ U.heap = h0 ∧ IB Z U.vm []) (fun _ _ _ _ _ => True) (fun _ U o U' => ∃ v L, o = .returned v ∧ (QE1 Z a1 a2 ka2 h0 n0) v U'.heap U'.vm L ∧ ReturnedEndW U o U' L 2 4) := by
 refine MetFree.of_bodySF (plainFor_of_name pn_java_lang_String) hisR ?_
 intro p e s m args below meth c s₁ Bd hml0 hP hK
 obtain ⟨rfl, hZ, hh, I0⟩ := hP
 have hkeep : ∀ (b : Addr) (cl : Cell), Z.heap[b]? = some cl → s.heap[b]? = some cl := fun b cl q => by rw [hh]; exact O0.2.2 b cl q
 have wSt := own_wS hw
 have hS0 : s.Since s.vm 0 := (State.WarmedH.refl s).since 0
 have hx := Bd.exec
 have hby := Bd.bytes
 have hml : c.maxLocals = 2 := hml0
 have hown : s.vm.findClass "java/lang/String" = some m.cls := findClass_of_methodNamed Bd.named
 have hnm := (name_of_methodNamed Bd.named Bd.method).1
 have X0 : Stand p l e ({ frames := 2, cells := 2, slots := 4, locals := 29 } : Room) (s.setVm s.vm) m #[(.ref a1), (.ref a2)] below meth c s₁ [] 0 0 := Stand.of_body Bd
 have e0 : s₁.heap = h0 := by rw [← hh, Bd.state]; rfl
 have N0 := Fr.nil n0
 refine GoU.mk ?_
 refine GoU.st (fun t k => castTop (ef2_rmE1 m a1 a2) k) ?_
 show GoU p e below s (QE1 Z a1 a2 ka2 h0 n0) 2 4 (s₁.setTop (mkF m 0 #[.val (.ref a1), .val (.ref a2)] []))
 refine GoU.sg (mkF m 1 #[.val (.ref a1), .val (.ref a2)] [(.ref a1)]) (fun t k => XS.aloadN X0.here hx rfl (hb hby d2_0) rfl rfl k) ?_
 refine GoU.sg (mkF m 2 #[.val (.ref a1), .val (.ref a2)] [(.ref a2), (.ref a1)]) (fun t k => XS.aloadN X0.here hx rfl (hb hby d2_1) rfl rfl k) ?_
 refine GoU.sg (mkF m 3 #[.val (.ref a1), .val (.ref a2)] [(.int 0), (.ref a2), (.ref a1)]) (fun t k => XS.iconst X0.here hx rfl (hb hby d2_2) k) ?_
 refine GoU.sg (mkF m 4 #[.val (.ref a1), .val (.ref a2)] [(.ref a2), (.int 0), (.ref a2), (.ref a1)]) (fun t k => XS.aloadN X0.here hx rfl (hb hby d2_3) rfl rfl k) ?_
 obtain ⟨cl8, Ar8, q8, Sz8, Nn8, Hh8, Gg8⟩ := id P3
 have st8 := X0.arraylength hx (hq_ e0 Ar8.1) (State.isArrayOf_alike hZ.alike Ar8.2.1) (g := (mkF m 4 #[.val (.ref a1), .val (.ref a2)] [(.ref a2), (.int 0), (.ref a2), (.ref a1)])) rfl rfl (hb hby d2_4)
 rw [len_of Sz8 Nn8] at st8
 refine GoU.sg (mkF m 5 #[.val (.ref a1), .val (.ref a2)] [(.int 0), (.int 0), (.ref a2), (.ref a1)]) (fun t k => st8 t k) ?_
 refine GoU.sg (mkF m 6 #[.val (.ref a1), .val (.ref a2)] [.null, (.int 0), (.int 0), (.ref a2), (.ref a1)]) (fun t k => XS.aconstNull X0.here hx rfl (hb hby d2_5) k) ?_
 obtain ⟨_, T9, L9, X9, hS9, hZ9, hown9, hQ9, st9⟩ := own_specU X0 hx hZ hS0 (Nat.zero_le _) (y := Y3) rfl hown (ww hw 12 rfl) (ww hw 13 rfl) (ww hw 7 rfl) (ww hw 15 rfl) (by decide) 0 (a := a1) (PV := fun vm => IB Z vm []) (rmE2 l Z a0 hw [] a1 a2  h0 n0 Z0 P0 P1 P2 g_a1    O0 hc_7 hcw) (fun vm1 q => own_ibW I0 q.interned_eq) (by decide) (by decide) e0 (by decide) (by decide) (g := (mkF m 6 #[.val (.ref a1), .val (.ref a2)] [.null, (.int 0), (.int 0), (.ref a2), (.ref a1)])) rfl (by rw [hml]; rfl) (argsL := [(.ref a2), (.int (0 : Int32)), (.int (0 : Int32)), .null]) (rest := []) (lenOf pd_285bCIILjava2flang2fVoid3b29V rfl) rfl (by show 2 * 0 + _ ≤ _; exact Nat.le_of_eq rfl) (hb hby d2_6)
 obtain ⟨rfl, N9q, K9⟩ := hQ9
 have N9 := Fr.app N0 N9q
 have f9_3 := (Keep.refl h0 [a1]).trans K9 (allS (Or.inl (List.mem_of_getElem? (i := 0) rfl)) all0)
 refine GoU.sg (mkF m 9 #[.val (.ref a1), .val (.ref a2)] []) (fun t k => st9 t k) ?_
 refine GoU.retV X9 hS9 (Nat.le_refl _) hx Bd.returns (hb hby d2_9) Bd.notSynchronized ?_ (by decide) (by decide)
 exact ⟨rfl, N9, f9_3⟩
def QE0 (Z : State) (x : Int32) (h0 : Heap) (n0 : Nat) (v : Option Value) (h : Heap) (vm : Vm) (L : List Loc) : Prop := ∃ e0 : Addr, v = some (.ref e0) ∧ Fr n0 L ∧ (Keep h0 h [])
theorem ef1_rmE0 (m : MethodId) (x : Int32) : entryFrame m #[(.int (0 : Int32)), (.int x)] 5 = (mkF m 0 #[.val (.int 0), .val (.int x), .unset, .unset, .unset] []) := by first | (simp [entryFrame, mkF, argsToLocals, Value.category, maxLocals]; done) | rfl
set_option maxRecDepth 65536 in
set_option maxHeartbeats 40000000 in
theorem rmE0 (l : Launch) (Z : State) (a0 : Array Value) (hw : ∀ d ∈ tables_1, d.before a0 Z = true) (ws : List Jvm.Cond) (x : Int32)  (h0 : Heap) (n0 : Nat) (Z0 : n0 ≤ h0.size)       (O0 : Old Z n0 h0) (hc_7 : Jvm.Lit.constHeld Z "java/lang/String" 7) (hcw : Jvm.Lit.compactW.before a0 Z = true) :
    MetFree l Y1 (head1 (Jvm.Cond.code Y1 method_2_code 5 (some (.object "java/lang/String")) :: ws) ({ frames := 3, cells := 4, slots := 8, locals := 43 } : Room)) (fun a U => a = #[(.int (0 : Int32)), (.int x)] ∧ Z.Warmed39 U.vm ∧ U.heap = h0 ∧ IB Z U.vm []) (fun _ _ _ _ _ => True) (fun _ U o U' => ∃ v L, o = .returned v ∧ (QE0 Z x h0 n0) v U'.heap U'.vm L ∧ ReturnedEndW U o U' L 4 8) := by
 refine MetFree.of_bodySF (plainFor_of_name pn_com_example_relaystack_relaystack_OptionValuePinLaw) hisR ?_
 intro p e s m args below meth c s₁ Bd hml0 hP hK
 obtain ⟨rfl, hZ, hh, I0⟩ := hP
 have hkeep : ∀ (b : Addr) (cl : Cell), Z.heap[b]? = some cl → s.heap[b]? = some cl := fun b cl q => by rw [hh]; exact O0.2.2 b cl q
 have wSt := own_wS hw
 have hS0 : s.Since s.vm 0 := (State.WarmedH.refl s).since 0
 have hx := Bd.exec
 have hby := Bd.bytes
 have hml : c.maxLocals = 5 := hml0
 have hown : s.vm.findClass "com/example/relaystack/relaystack/OptionValuePinLaw" = some m.cls := findClass_of_methodNamed Bd.named
 have hnm := (name_of_methodNamed Bd.named Bd.method).1
 have X0 : Stand p l e ({ frames := 3, cells := 4, slots := 8, locals := 43 } : Room) (s.setVm s.vm) m #[(.int (0 : Int32)), (.int x)] below meth c s₁ [] 0 0 := Stand.of_body Bd
 have e0 : s₁.heap = h0 := by rw [← hh, Bd.state]; rfl
 have N0 := Fr.nil n0
 refine GoU.mk ?_
 refine GoU.st (fun t k => castTop (ef1_rmE0 m x) k) ?_
 show GoU p e below s (QE0 Z x h0 n0) 4 8 (s₁.setTop (mkF m 0 (Sh1 0 x) []))
 refine GoU.sg (mkF m 1 (Sh1 0 x) [(.int x)]) (fun t k => XS.iloadN X0.here hx rfl (hb hby d1_0) rfl k) ?_
 refine GoU.sg (mkF m 4 (Sh1 0 x) [(.int 255), (.int x)]) (fun t k => XS.sipush X0.here hx rfl (hb hby d1_1) k) ?_
 refine GoU.sg (mkF m 5 (Sh1 0 x) [(.int (x &&& (255 : Int32)))]) (fun t k => XS.iand X0.here hx rfl (hb hby d1_4) rfl k) ?_
 refine GoU.sg (mkF m 6 (Sh1 0 x) [(.int (x &&& (255 : Int32)).toUInt32.toUInt16.toUInt32.toInt32)]) (fun t k => XS.i2c X0.here hx rfl (hb hby d1_5) rfl k) ?_
 refine GoU.sg (mkF m 7 (Sh2 0 x ((x &&& (255 : Int32)).toUInt32.toUInt16.toUInt32.toInt32)) []) (fun t k => XS.istoreN X0.here hx rfl (hb hby d1_6) rfl (l' := (Sh2 0 x ((x &&& (255 : Int32)).toUInt32.toUInt16.toUInt32.toInt32))) rfl k) ?_
 refine GoU.sg (mkF m 8 (Sh2 0 x ((x &&& (255 : Int32)).toUInt32.toUInt16.toUInt32.toInt32)) [(.int x)]) (fun t k => XS.iloadN X0.here hx rfl (hb hby d1_7) rfl k) ?_
 refine GoU.sg (mkF m 10 (Sh2 0 x ((x &&& (255 : Int32)).toUInt32.toUInt16.toUInt32.toInt32)) [(.int 8), (.int x)]) (fun t k => XS.bipush X0.here hx rfl (hb hby d1_8) k) ?_
 refine GoU.sg (mkF m 11 (Sh2 0 x ((x &&& (255 : Int32)).toUInt32.toUInt16.toUInt32.toInt32)) [(.int (x.toUInt32 >>> ((8 : Int32) &&& 31).toUInt32).toInt32)]) (fun t k => XS.iushr X0.here hx rfl (hb hby d1_10) rfl k) ?_
 refine GoU.sg (mkF m 14 (Sh2 0 x ((x &&& (255 : Int32)).toUInt32.toUInt16.toUInt32.toInt32)) [(.int 255), (.int (x.toUInt32 >>> ((8 : Int32) &&& 31).toUInt32).toInt32)]) (fun t k => XS.sipush X0.here hx rfl (hb hby d1_11) k) ?_
 refine GoU.sg (mkF m 15 (Sh2 0 x ((x &&& (255 : Int32)).toUInt32.toUInt16.toUInt32.toInt32)) [(.int ((x.toUInt32 >>> ((8 : Int32) &&& 31).toUInt32).toInt32 &&& (255 : Int32)))]) (fun t k => XS.iand X0.here hx rfl (hb hby d1_14) rfl k) ?_
 refine GoU.sg (mkF m 16 (Sh2 0 x ((x &&& (255 : Int32)).toUInt32.toUInt16.toUInt32.toInt32)) [(.int ((x.toUInt32 >>> ((8 : Int32) &&& 31).toUInt32).toInt32 &&& (255 : Int32)).toUInt32.toUInt16.toUInt32.toInt32)]) (fun t k => XS.i2c X0.here hx rfl (hb hby d1_15) rfl k) ?_
 refine GoU.sg (mkF m 17 (Sh3 0 x ((x &&& (255 : Int32)).toUInt32.toUInt16.toUInt32.toInt32) (((x.toUInt32 >>> ((8 : Int32) &&& 31).toUInt32).toInt32 &&& (255 : Int32)).toUInt32.toUInt16.toUInt32.toInt32)) []) (fun t k => XS.istoreN X0.here hx rfl (hb hby d1_16) rfl (l' := (Sh3 0 x ((x &&& (255 : Int32)).toUInt32.toUInt16.toUInt32.toInt32) (((x.toUInt32 >>> ((8 : Int32) &&& 31).toUInt32).toInt32 &&& (255 : Int32)).toUInt32.toUInt16.toUInt32.toInt32))) rfl k) ?_
 refine GoU.sg (mkF m 18 (Sh3 0 x ((x &&& (255 : Int32)).toUInt32.toUInt16.toUInt32.toInt32) (((x.toUInt32 >>> ((8 : Int32) &&& 31).toUInt32).toInt32 &&& (255 : Int32)).toUInt32.toUInt16.toUInt32.toInt32)) [(.int x)]) (fun t k => XS.iloadN X0.here hx rfl (hb hby d1_17) rfl k) ?_
 refine GoU.sg (mkF m 20 (Sh3 0 x ((x &&& (255 : Int32)).toUInt32.toUInt16.toUInt32.toInt32) (((x.toUInt32 >>> ((8 : Int32) &&& 31).toUInt32).toInt32 &&& (255 : Int32)).toUInt32.toUInt16.toUInt32.toInt32)) [(.int 16), (.int x)]) (fun t k => XS.bipush X0.here hx rfl (hb hby d1_18) k) ?_
 refine GoU.sg (mkF m 21 (Sh3 0 x ((x &&& (255 : Int32)).toUInt32.toUInt16.toUInt32.toInt32) (((x.toUInt32 >>> ((8 : Int32) &&& 31).toUInt32).toInt32 &&& (255 : Int32)).toUInt32.toUInt16.toUInt32.toInt32)) [(.int (x.toUInt32 >>> ((16 : Int32) &&& 31).toUInt32).toInt32)]) (fun t k => XS.iushr X0.here hx rfl (hb hby d1_20) rfl k) ?_
 refine GoU.sg (mkF m 24 (Sh3 0 x ((x &&& (255 : Int32)).toUInt32.toUInt16.toUInt32.toInt32) (((x.toUInt32 >>> ((8 : Int32) &&& 31).toUInt32).toInt32 &&& (255 : Int32)).toUInt32.toUInt16.toUInt32.toInt32)) [(.int 255), (.int (x.toUInt32 >>> ((16 : Int32) &&& 31).toUInt32).toInt32)]) (fun t k => XS.sipush X0.here hx rfl (hb hby d1_21) k) ?_
 refine GoU.sg (mkF m 25 (Sh3 0 x ((x &&& (255 : Int32)).toUInt32.toUInt16.toUInt32.toInt32) (((x.toUInt32 >>> ((8 : Int32) &&& 31).toUInt32).toInt32 &&& (255 : Int32)).toUInt32.toUInt16.toUInt32.toInt32)) [(.int ((x.toUInt32 >>> ((16 : Int32) &&& 31).toUInt32).toInt32 &&& (255 : Int32)))]) (fun t k => XS.iand X0.here hx rfl (hb hby d1_24) rfl k) ?_
 refine GoU.sg (mkF m 26 (Sh3 0 x ((x &&& (255 : Int32)).toUInt32.toUInt16.toUInt32.toInt32) (((x.toUInt32 >>> ((8 : Int32) &&& 31).toUInt32).toInt32 &&& (255 : Int32)).toUInt32.toUInt16.toUInt32.toInt32)) [(.int ((x.toUInt32 >>> ((16 : Int32) &&& 31).toUInt32).toInt32 &&& (255 : Int32)).toUInt32.toUInt16.toUInt32.toInt32)]) (fun t k => XS.i2c X0.here hx rfl (hb hby d1_25) rfl k) ?_
 refine GoU.sg (mkF m 28 (Sh4 0 x ((x &&& (255 : Int32)).toUInt32.toUInt16.toUInt32.toInt32) (((x.toUInt32 >>> ((8 : Int32) &&& 31).toUInt32).toInt32 &&& (255 : Int32)).toUInt32.toUInt16.toUInt32.toInt32) (((x.toUInt32 >>> ((16 : Int32) &&& 31).toUInt32).toInt32 &&& (255 : Int32)).toUInt32.toUInt16.toUInt32.toInt32)) []) (fun t k => XS.istore X0.here hx rfl (hb hby d1_26) rfl (l' := (Sh4 0 x ((x &&& (255 : Int32)).toUInt32.toUInt16.toUInt32.toInt32) (((x.toUInt32 >>> ((8 : Int32) &&& 31).toUInt32).toInt32 &&& (255 : Int32)).toUInt32.toUInt16.toUInt32.toInt32) (((x.toUInt32 >>> ((16 : Int32) &&& 31).toUInt32).toInt32 &&& (255 : Int32)).toUInt32.toUInt16.toUInt32.toInt32))) rfl k) ?_
 refine GoU.sg (mkF m 29 (Sh4 0 x ((x &&& (255 : Int32)).toUInt32.toUInt16.toUInt32.toInt32) (((x.toUInt32 >>> ((8 : Int32) &&& 31).toUInt32).toInt32 &&& (255 : Int32)).toUInt32.toUInt16.toUInt32.toInt32) (((x.toUInt32 >>> ((16 : Int32) &&& 31).toUInt32).toInt32 &&& (255 : Int32)).toUInt32.toUInt16.toUInt32.toInt32)) [(.int 0)]) (fun t k => XS.iloadN X0.here hx rfl (hb hby d1_28) rfl k) ?_
 refine GoU.sg (mkF m 32 (Sh4 0 x ((x &&& (255 : Int32)).toUInt32.toUInt16.toUInt32.toInt32) (((x.toUInt32 >>> ((8 : Int32) &&& 31).toUInt32).toInt32 &&& (255 : Int32)).toUInt32.toUInt16.toUInt32.toInt32) (((x.toUInt32 >>> ((16 : Int32) &&& 31).toUInt32).toInt32 &&& (255 : Int32)).toUInt32.toUInt16.toUInt32.toInt32)) []) (fun t k => XS.ifNo X0.here hx rfl (hb hby d1_29) rfl (by decide) k) ?_
 obtain ⟨T10, h10, X10, e10, E10, A10, D10, -, st10⟩ := newO X0 hx hZ hown (ww hw 5 rfl) (ww hw 6 rfl) (ww hw 7 rfl) e0 (g := (mkF m 32 (Sh4 0 x ((x &&& (255 : Int32)).toUInt32.toUInt16.toUInt32.toInt32) (((x.toUInt32 >>> ((8 : Int32) &&& 31).toUInt32).toInt32 &&& (255 : Int32)).toUInt32.toUInt16.toUInt32.toInt32) (((x.toUInt32 >>> ((16 : Int32) &&& 31).toUInt32).toInt32 &&& (255 : Int32)).toUInt32.toUInt16.toUInt32.toInt32)) [])) rfl (hb hby d1_32) (by decide) (by decide)
 obtain ⟨b10, g10⟩ : ∃ z, z = h0.size := ⟨_, rfl⟩
 rw [← g10] at A10 D10 st10
 have g_b10 : n0 ≤ b10 := Nat.le_trans Z0 (Nat.le_of_eq g10.symm)
 have sz_b10 : h0.size ≤ b10 := Nat.le_trans (Keep.refl h0 []).1 (Nat.le_of_eq g10.symm)
 have f10_1 := (Keep.refl h0 []).ext E10
 have f10_2 := Nat.le_trans Z0 E10.1
 have f10_3 := Nat.le_trans (Nat.zero_le _) E10.1
 have f10_4 := O0.ext E10
 have F10coder : Fld Z h10 b10 "java/lang/String" "coder" "B" (.int (0 : Int32)) := D10 (Or.inr (ww hw 32 rfl)) (ty := .byte) (by decide)
 have F10value : Fld Z h10 b10 "java/lang/String" "value" "[B" .null := D10 (Or.inr (ww hw 34 rfl)) (ty := (.array .byte)) (by decide)
 refine GoU.sg (mkF m 35 (Sh4 0 x ((x &&& (255 : Int32)).toUInt32.toUInt16.toUInt32.toInt32) (((x.toUInt32 >>> ((8 : Int32) &&& 31).toUInt32).toInt32 &&& (255 : Int32)).toUInt32.toUInt16.toUInt32.toInt32) (((x.toUInt32 >>> ((16 : Int32) &&& 31).toUInt32).toInt32 &&& (255 : Int32)).toUInt32.toUInt16.toUInt32.toInt32)) [(.ref b10)]) (fun t k => st10 t k) ?_
 refine GoU.sg (mkF m 36 (Sh4 0 x ((x &&& (255 : Int32)).toUInt32.toUInt16.toUInt32.toInt32) (((x.toUInt32 >>> ((8 : Int32) &&& 31).toUInt32).toInt32 &&& (255 : Int32)).toUInt32.toUInt16.toUInt32.toInt32) (((x.toUInt32 >>> ((16 : Int32) &&& 31).toUInt32).toInt32 &&& (255 : Int32)).toUInt32.toUInt16.toUInt32.toInt32)) [(.ref b10), (.ref b10)]) (fun t k => XS.dup X10.here hx rfl (hb hby d1_35) rfl rfl k) ?_
 refine GoU.sg (mkF m 37 (Sh4 0 x ((x &&& (255 : Int32)).toUInt32.toUInt16.toUInt32.toInt32) (((x.toUInt32 >>> ((8 : Int32) &&& 31).toUInt32).toInt32 &&& (255 : Int32)).toUInt32.toUInt16.toUInt32.toInt32) (((x.toUInt32 >>> ((16 : Int32) &&& 31).toUInt32).toInt32 &&& (255 : Int32)).toUInt32.toUInt16.toUInt32.toInt32)) [(.int 0), (.ref b10), (.ref b10)]) (fun t k => XS.iconst X10.here hx rfl (hb hby d1_36) k) ?_
 obtain ⟨T11, h11, k11, X11, e11, E11, A11, st11⟩ := newP X10 hx hZ (ww hw 8 rfl) e10 (g := (mkF m 37 (Sh4 0 x ((x &&& (255 : Int32)).toUInt32.toUInt16.toUInt32.toInt32) (((x.toUInt32 >>> ((8 : Int32) &&& 31).toUInt32).toInt32 &&& (255 : Int32)).toUInt32.toUInt16.toUInt32.toInt32) (((x.toUInt32 >>> ((16 : Int32) &&& 31).toUInt32).toInt32 &&& (255 : Int32)).toUInt32.toUInt16.toUInt32.toInt32)) [(.int 0), (.ref b10), (.ref b10)])) rfl (hb hby d1_37) rfl (by decide) (cap := 0) (by decide) (by decide) (by decide) (by decide)
 obtain ⟨b11, g11⟩ : ∃ z, z = h10.size := ⟨_, rfl⟩
 rw [← g11] at A11 st11
 have ne_b10_b11 : b10 ≠ b11 := Nat.ne_of_lt (Nat.lt_of_lt_of_eq A10.lt g11.symm)
 have f11_5 := f10_1.ext E11
 have f11_6 := Nat.le_trans f10_2 E11.1
 have f11_7 := Nat.le_trans f10_3 E11.1
 have f11_8 := f10_4.ext E11
 have f11_9 := A10.ext E11
 have f11_10 := F10coder.ext E11
 have f11_11 := F10value.ext E11
 have V11 : Arv Z h11 b11 k11 .char (0 : Int32) [] (.int (0 : Int32)) := (Arv.new A11 (by decide)).pad (pad_rep [] (.int (0 : Int32)) 0)
 refine GoU.sg (mkF m 39 (Sh4 0 x ((x &&& (255 : Int32)).toUInt32.toUInt16.toUInt32.toInt32) (((x.toUInt32 >>> ((8 : Int32) &&& 31).toUInt32).toInt32 &&& (255 : Int32)).toUInt32.toUInt16.toUInt32.toInt32) (((x.toUInt32 >>> ((16 : Int32) &&& 31).toUInt32).toInt32 &&& (255 : Int32)).toUInt32.toUInt16.toUInt32.toInt32)) [(.ref b11), (.ref b10), (.ref b10)]) (fun t k => st11 t k) ?_
 obtain ⟨_, T12, L12, X12, hS12, hZ12, hown12, hQ12, st12⟩ := own_specU X11 hx hZ hS0 f11_7 (y := Y2) rfl hown (ww hw 9 rfl) (ww hw 10 rfl) (ww hw 7 rfl) (ww hw 11 rfl) (by decide) 1 (a := b10) (PV := fun vm => IB Z vm []) (rmE1 l Z a0 hw [] b10 b11 k11 h11 n0 f11_6 f11_9 f11_11 f11_10 V11 g_b10 ne_b10_b11   f11_8 hc_7 hcw) (fun vm1 q => own_ibW I0 q.interned_eq) (by decide) (by decide) e11 (by decide) (by decide) (g := (mkF m 39 (Sh4 0 x ((x &&& (255 : Int32)).toUInt32.toUInt16.toUInt32.toInt32) (((x.toUInt32 >>> ((8 : Int32) &&& 31).toUInt32).toInt32 &&& (255 : Int32)).toUInt32.toUInt16.toUInt32.toInt32) (((x.toUInt32 >>> ((16 : Int32) &&& 31).toUInt32).toInt32 &&& (255 : Int32)).toUInt32.toUInt16.toUInt32.toInt32)) [(.ref b11), (.ref b10), (.ref b10)])) rfl (by rw [hml]; rfl) (argsL := [(.ref b11)]) (rest := [(.ref b10)]) (lenOf pd_285bC29V rfl) rfl (by show 2 * 0 + _ ≤ _; exact Nat.le_of_eq rfl) (hb hby d1_39)
 obtain ⟨rfl, N12q, K12⟩ := hQ12
 have N12 := Fr.app N0 N12q
 have f12_12 := f11_5.trans K12 (allS (Or.inr sz_b10) all0)
 refine GoU.sg (mkF m 42 (Sh4 0 x ((x &&& (255 : Int32)).toUInt32.toUInt16.toUInt32.toInt32) (((x.toUInt32 >>> ((8 : Int32) &&& 31).toUInt32).toInt32 &&& (255 : Int32)).toUInt32.toUInt16.toUInt32.toInt32) (((x.toUInt32 >>> ((16 : Int32) &&& 31).toUInt32).toInt32 &&& (255 : Int32)).toUInt32.toUInt16.toUInt32.toInt32)) [(.ref b10)]) (fun t k => st12 t k) ?_
 refine GoU.retA X12 hS12 (Nat.le_refl _) hx Bd.returns rfl rfl rfl (hb hby d1_42) Bd.notSynchronized ?_ (by decide) (by decide)
 exact ⟨b10, rfl, N12, f12_12⟩
def Q6_1 (Z : State) (a1c : Addr) (a2c : Addr) (ka2c : ClassId) (ka1c : ClassId) (x1c : Int32) (h0 : Heap) (n0 : Nat) (v : Option Value) (h : Heap) (L : List Loc) : Prop := v = some (.int (1 : Int32)) ∧ Fr n0 L ∧ (Keep h0 h [a2c]) ∧ (Arv Z h a2c ka2c .byte (1 : Int32) [(.int (lat8 x1c))] (.int (0 : Int32)))
theorem ef6_rm6_1 (m : MethodId) (a1c : Addr) (a2c : Addr) : entryFrame m #[(.ref a1c), (.int (0 : Int32)), (.ref a2c), (.int (0 : Int32)), (.int (1 : Int32))] 7 = (mkF m 0 #[.val (.ref a1c), .val (.int 0), .val (.ref a2c), .val (.int 0), .val (.int 1), .unset, .unset] []) := by first | (simp [entryFrame, mkF, argsToLocals, Value.category, maxLocals]; done) | rfl
set_option maxRecDepth 65536 in
set_option maxHeartbeats 40000000 in
theorem rm6_1 (l : Launch) (Z : State) (a0 : Array Value) (hw : ∀ d ∈ tables_1, d.before a0 Z = true) (ws : List Jvm.Cond) (a1c : Addr) (a2c : Addr) (ka2c : ClassId) (ka1c : ClassId) (x1c : Int32) (h0 : Heap) (n0 : Nat) (P0 : Arv Z h0 a2c ka2c .byte (1 : Int32) [(.int (0 : Int32))] (.int (0 : Int32))) (P1 : Arv Z h0 a1c ka1c .char (1 : Int32) [(.int x1c)] (.int (0 : Int32))) (g_a2c : n0 ≤ a2c)  (u0 : ¬ ((255 : Int32) < x1c))   :
    MetFree l Y6 (head1 (Jvm.Cond.code Y6 jdk_52_method_21_code 7 (some .int) :: ws) ({ frames := 0, cells := 0, slots := 0, locals := 0 } : Room)) (fun a U => a = #[(.ref a1c), (.int (0 : Int32)), (.ref a2c), (.int (0 : Int32)), (.int (1 : Int32))] ∧ Z.Warmed39 U.vm ∧ U.heap = h0) (fun _ _ _ _ _ => True) (fun _ U o U' => ∃ v L, o = .returned v ∧ (Q6_1 Z a1c a2c ka2c ka1c x1c h0 n0) v U'.heap L ∧ FrameEnd U o U' L 0 0) := by
 refine MetFree.of_bodySF (plainFor_of_name pn_java_lang_StringUTF16) hisR ?_
 intro p e s m args below meth c s₁ Bd hml0 hP hK
 obtain ⟨rfl, hZ, hh⟩ := hP
 have hx := Bd.exec
 have hby := Bd.bytes
 have hml : c.maxLocals = 7 := hml0
 have hown : s.vm.findClass "java/lang/StringUTF16" = some m.cls := findClass_of_methodNamed Bd.named
 have hnm := (name_of_methodNamed Bd.named Bd.method).1
 have X0 : Stand p l e ({ frames := 0, cells := 0, slots := 0, locals := 0 } : Room) s m #[(.ref a1c), (.int (0 : Int32)), (.ref a2c), (.int (0 : Int32)), (.int (1 : Int32))] below meth c s₁ [] 0 0 := Stand.of_body Bd
 have e0 : s₁.heap = h0 := by rw [← hh, Bd.state]; rfl
 have N0 := Fr.nil n0
 refine GoW.mk ?_
 refine GoW.st (fun t k => castTop (ef6_rm6_1 m a1c a2c) k) ?_
 show GoW p e below s (Q6_1 Z a1c a2c ka2c ka1c x1c h0 n0) 0 0 (s₁.setTop (mkF m 0 (Sh10 a1c 0 a2c 0 1) []))
 refine GoW.sg (mkF m 1 (Sh10 a1c 0 a2c 0 1) [(.int 0)]) (fun t k => XS.iconst X0.here hx rfl (hb hby d6_0) k) ?_
 refine GoW.sg (mkF m 3 (Sh11 a1c 0 a2c 0 1 0) []) (fun t k => XS.istore X0.here hx rfl (hb hby d6_1) rfl (l' := (Sh11 a1c 0 a2c 0 1 0)) rfl k) ?_
 refine GoW.sg (mkF m 5 (Sh11 a1c 0 a2c 0 1 0) [(.int 0)]) (fun t k => XS.iload X0.here hx rfl (hb hby d6_3) rfl k) ?_
 refine GoW.sg (mkF m 7 (Sh11 a1c 0 a2c 0 1 0) [(.int 1), (.int 0)]) (fun t k => XS.iload X0.here hx rfl (hb hby d6_5) rfl k) ?_
 refine GoW.sg (mkF m 10 (Sh11 a1c 0 a2c 0 1 0) []) (fun t k => XS.icmpNo X0.here hx rfl (hb hby d6_7) rfl (by decide) k) ?_
 refine GoW.sg (mkF m 11 (Sh11 a1c 0 a2c 0 1 0) [(.ref a1c)]) (fun t k => XS.aloadN X0.here hx rfl (hb hby d6_10) rfl rfl k) ?_
 refine GoW.sg (mkF m 12 (Sh11 a1c 0 a2c 0 1 0) [(.int 0), (.ref a1c)]) (fun t k => XS.iloadN X0.here hx rfl (hb hby d6_11) rfl k) ?_
 obtain ⟨cl22, Ar22, q22, Sz22, Nn22, Hh22, Gg22⟩ := id P1
 have hin22 : ¬ ((0 : Int32) < 0 ∨ cl22.slots.size ≤ ((0 : Int32)).toNatClampNeg) := inb_of Sz22 ⟨by decide, by decide⟩
 refine GoW.sg (mkF m 13 (Sh11 a1c 0 a2c 0 1 0) [(.int x1c)]) (fun t k => X0.caload hx (j := (0 : Int32)) (v := (.int x1c)) (hq_ e0 Ar22.1) (State.isArrayOf_alike hZ.alike Ar22.2.1) Ar22.2.2 hin22 (Hh22.at hin22 rfl) (g := (mkF m 12 (Sh11 a1c 0 a2c 0 1 0) [(.int 0), (.ref a1c)])) rfl rfl (hb hby d6_12) t k) ?_
 refine GoW.sg (mkF m 15 (Sh12 a1c 0 a2c 0 1 0 x1c) []) (fun t k => XS.istore X0.here hx rfl (hb hby d6_13) rfl (l' := (Sh12 a1c 0 a2c 0 1 0 x1c)) rfl k) ?_
 refine GoW.sg (mkF m 17 (Sh12 a1c 0 a2c 0 1 0 x1c) [(.int x1c)]) (fun t k => XS.iload X0.here hx rfl (hb hby d6_15) rfl k) ?_
 refine GoW.sg (mkF m 20 (Sh12 a1c 0 a2c 0 1 0 x1c) [(.int 255), (.int x1c)]) (fun t k => XS.sipush X0.here hx rfl (hb hby d6_17) k) ?_
 refine GoW.sg (mkF m 26 (Sh12 a1c 0 a2c 0 1 0 x1c) []) (fun t k => XS.icmpYes X0.here hx rfl (pc0 := 20) (pc' := 26) rfl (hb hby d6_20) rfl (flt u0).2.2.2 (by decide) (by decide) k) ?_
 refine GoW.sg (mkF m 27 (Sh12 a1c 0 a2c 0 1 0 x1c) [(.ref a2c)]) (fun t k => XS.aloadN X0.here hx rfl (hb hby d6_26) rfl rfl k) ?_
 refine GoW.sg (mkF m 28 (Sh12 a1c 0 a2c 0 1 0 x1c) [(.int 0), (.ref a2c)]) (fun t k => XS.iloadN X0.here hx rfl (hb hby d6_27) rfl k) ?_
 refine GoW.sg (mkF m 30 (Sh12 a1c 0 a2c 0 1 0 x1c) [(.int x1c), (.int 0), (.ref a2c)]) (fun t k => XS.iload X0.here hx rfl (hb hby d6_28) rfl k) ?_
 refine GoW.sg (mkF m 31 (Sh12 a1c 0 a2c 0 1 0 x1c) [(.int x1c.toInt8.toInt32), (.int 0), (.ref a2c)]) (fun t k => XS.i2b X0.here hx rfl (hb hby d6_30) rfl k) ?_
 obtain ⟨cl23, Ar23, q23, Sz23, Nn23, Hh23, Gg23⟩ := P0
 have hin23 : ¬ ((0 : Int32) < 0 ∨ cl23.slots.size ≤ ((0 : Int32)).toNatClampNeg) := inb_of Sz23 ⟨by decide, by decide⟩
 obtain ⟨T23, h23, X23, e23, W23, st23⟩ := stB X0 hx hZ e0 Ar23 (j := (0 : Int32)) hin23 (g := (mkF m 31 (Sh12 a1c 0 a2c 0 1 0 x1c) [(.int x1c.toInt8.toInt32), (.int 0), (.ref a2c)])) rfl rfl (hb hby d6_31)
 have f23_1 := (Keep.refl h0 [a2c]).wr W23 (Or.inl (List.mem_of_getElem? (i := 0) rfl))
 have V23 : Arv Z h23 a2c ka2c .byte (1 : Int32) [(.int (lat8 x1c))] (.int (0 : Int32)) := Arv.set Ar23 q23 Sz23 Nn23 Hh23 Gg23 (fits_nar_byte _) W23 0 rfl (Nat.le_of_ble_eq_true rfl)
 have N23 := Fr.snoc X23 N0 g_a2c
 refine GoW.sg (mkF m 32 (Sh12 a1c 0 a2c 0 1 0 x1c) []) (fun t k => st23 t k) ?_
 refine GoW.sg (mkF m 35 (Sh12 a1c 1 a2c 0 1 0 x1c) []) (fun t k => XS.iinc X23.here hx rfl (hb hby d6_32) rfl (l' := (Sh12 a1c 1 a2c 0 1 0 x1c)) rfl k) ?_
 refine GoW.sg (mkF m 38 (Sh12 a1c 1 a2c 1 1 0 x1c) []) (fun t k => XS.iinc X23.here hx rfl (hb hby d6_35) rfl (l' := (Sh12 a1c 1 a2c 1 1 0 x1c)) rfl k) ?_
 refine GoW.sg (mkF m 41 (Sh12 a1c 1 a2c 1 1 1 x1c) []) (fun t k => XS.iinc X23.here hx rfl (hb hby d6_38) rfl (l' := (Sh12 a1c 1 a2c 1 1 1 x1c)) rfl k) ?_
 refine GoW.sg (mkF m 3 (Sh12 a1c 1 a2c 1 1 1 x1c) []) (fun t k => XS.goto X23.here hx rfl (pc0 := 41) (pc' := 3) rfl (hb hby d6_41) (by decide) (by decide) k) ?_
 refine GoW.sg (mkF m 5 (Sh12 a1c 1 a2c 1 1 1 x1c) [(.int 1)]) (fun t k => XS.iload X23.here hx rfl (hb hby d6_3) rfl k) ?_
 refine GoW.sg (mkF m 7 (Sh12 a1c 1 a2c 1 1 1 x1c) [(.int 1), (.int 1)]) (fun t k => XS.iload X23.here hx rfl (hb hby d6_5) rfl k) ?_
 refine GoW.sg (mkF m 44 (Sh12 a1c 1 a2c 1 1 1 x1c) []) (fun t k => XS.icmpYes X23.here hx rfl (pc0 := 7) (pc' := 44) rfl (hb hby d6_7) rfl (by decide) (by decide) (by decide) k) ?_
 refine GoW.sg (mkF m 46 (Sh12 a1c 1 a2c 1 1 1 x1c) [(.int 1)]) (fun t k => XS.iload X23.here hx rfl (hb hby d6_44) rfl k) ?_
 refine GoW.retI X23 hx Bd.returns (hb hby d6_46) Bd.notSynchronized ?_ (by decide) (by decide)
 rw [e23]
 exact ⟨rfl, N23, f23_1, V23⟩
def Q5_2 (Z : State) (a1c : Addr) (ka1c : ClassId) (x1c : Int32) (h0 : Heap) (n0 : Nat) (v : Option Value) (h : Heap) (L : List Loc) : Prop := ∃ e0 : Addr, ∃ ke0 : ClassId, v = some (.ref e0) ∧ Fr n0 L ∧ (Keep h0 h []) ∧ (Arv Z h e0 ke0 .byte (1 : Int32) [(.int (lat8 x1c))] (.int (0 : Int32))) ∧ (h0.size ≤ e0)
theorem ef5_rm5_2 (m : MethodId) (a1c : Addr) : entryFrame m #[(.ref a1c), (.int (0 : Int32)), (.int (1 : Int32))] 6 = (mkF m 0 #[.val (.ref a1c), .val (.int 0), .val (.int 1), .unset, .unset, .unset] []) := by first | (simp [entryFrame, mkF, argsToLocals, Value.category, maxLocals]; done) | rfl
set_option maxRecDepth 65536 in
set_option maxHeartbeats 40000000 in
theorem rm5_2 (l : Launch) (Z : State) (a0 : Array Value) (hw : ∀ d ∈ tables_1, d.before a0 Z = true) (ws : List Jvm.Cond) (a1c : Addr) (ka1c : ClassId) (x1c : Int32) (h0 : Heap) (n0 : Nat) (Z0 : n0 ≤ h0.size) (P0 : Arv Z h0 a1c ka1c .char (1 : Int32) [(.int x1c)] (.int (0 : Int32)))   (u0 : ¬ ((255 : Int32) < x1c))   :
    MetFree l Y5 (head1 (Jvm.Cond.code Y5 jdk_52_method_16_code 6 (some (.array .byte)) :: ws) ({ frames := 1, cells := 1, slots := 1, locals := 18 } : Room)) (fun a U => a = #[(.ref a1c), (.int (0 : Int32)), (.int (1 : Int32))] ∧ Z.Warmed39 U.vm ∧ U.heap = h0) (fun _ _ _ _ _ => True) (fun _ U o U' => ∃ v L, o = .returned v ∧ (Q5_2 Z a1c ka1c x1c h0 n0) v U'.heap L ∧ FrameEnd U o U' L 1 1) := by
 refine MetFree.of_bodySF (plainFor_of_name pn_java_lang_StringUTF16) hisR ?_
 intro p e s m args below meth c s₁ Bd hml0 hP hK
 obtain ⟨rfl, hZ, hh⟩ := hP
 have hx := Bd.exec
 have hby := Bd.bytes
 have hml : c.maxLocals = 6 := hml0
 have hown : s.vm.findClass "java/lang/StringUTF16" = some m.cls := findClass_of_methodNamed Bd.named
 have hnm := (name_of_methodNamed Bd.named Bd.method).1
 have X0 : Stand p l e ({ frames := 1, cells := 1, slots := 1, locals := 18 } : Room) s m #[(.ref a1c), (.int (0 : Int32)), (.int (1 : Int32))] below meth c s₁ [] 0 0 := Stand.of_body Bd
 have e0 : s₁.heap = h0 := by rw [← hh, Bd.state]; rfl
 have N0 := Fr.nil n0
 refine GoW.mk ?_
 refine GoW.st (fun t k => castTop (ef5_rm5_2 m a1c) k) ?_
 show GoW p e below s (Q5_2 Z a1c ka1c x1c h0 n0) 1 1 (s₁.setTop (mkF m 0 (Sh8 a1c 0 1) []))
 refine GoW.sg (mkF m 1 (Sh8 a1c 0 1) [(.int 1)]) (fun t k => XS.iloadN X0.here hx rfl (hb hby d5_0) rfl k) ?_
 obtain ⟨T25, h25, k25, X25, e25, E25, A25, st25⟩ := newP X0 hx hZ (ww hw 24 rfl) e0 (g := (mkF m 1 (Sh8 a1c 0 1) [(.int 1)])) rfl (hb hby d5_1) rfl (by decide) (cap := 1) (by decide) (by decide) (by decide) (by decide)
 obtain ⟨b25, g25⟩ : ∃ z, z = h0.size := ⟨_, rfl⟩
 rw [← g25] at A25 st25
 have g_b25 : n0 ≤ b25 := Nat.le_trans Z0 (Nat.le_of_eq g25.symm)
 have sz_b25 : h0.size ≤ b25 := Nat.le_trans (Keep.refl h0 []).1 (Nat.le_of_eq g25.symm)
 have f25_1 := P0.ext E25
 have f25_2 := (Keep.refl h0 []).ext E25
 have V25 : Arv Z h25 b25 k25 .byte (1 : Int32) [(.int (0 : Int32))] (.int (0 : Int32)) := (Arv.new A25 (by decide)).pad (pad_rep [] (.int (0 : Int32)) 1)
 refine GoW.sg (mkF m 3 (Sh8 a1c 0 1) [(.ref b25)]) (fun t k => st25 t k) ?_
 refine GoW.sg (mkF m 4 (Sh9 a1c 0 1 b25) []) (fun t k => XS.astoreN X25.here hx rfl (hb hby d5_3) rfl rfl (l' := (Sh9 a1c 0 1 b25)) rfl k) ?_
 refine GoW.sg (mkF m 5 (Sh9 a1c 0 1 b25) [(.ref a1c)]) (fun t k => XS.aloadN X25.here hx rfl (hb hby d5_4) rfl rfl k) ?_
 refine GoW.sg (mkF m 6 (Sh9 a1c 0 1 b25) [(.int 0), (.ref a1c)]) (fun t k => XS.iloadN X25.here hx rfl (hb hby d5_5) rfl k) ?_
 refine GoW.sg (mkF m 7 (Sh9 a1c 0 1 b25) [(.ref b25), (.int 0), (.ref a1c)]) (fun t k => XS.aloadN X25.here hx rfl (hb hby d5_6) rfl rfl k) ?_
 refine GoW.sg (mkF m 8 (Sh9 a1c 0 1 b25) [(.int 0), (.ref b25), (.int 0), (.ref a1c)]) (fun t k => XS.iconst X25.here hx rfl (hb hby d5_7) k) ?_
 refine GoW.sg (mkF m 9 (Sh9 a1c 0 1 b25) [(.int 1), (.int 0), (.ref b25), (.int 0), (.ref a1c)]) (fun t k => XS.iloadN X25.here hx rfl (hb hby d5_8) rfl k) ?_
 obtain ⟨_, T28, L28, X28, hQ28, st28⟩ := own_callS X25 hx hZ hown (y := Y6) (ww hw 25 rfl) (ww hw 26 rfl) (ww hw 22 rfl) (ww hw 27 rfl) (by decide) 0 (rm6_1 l Z a0 hw [] a1c b25 k25 ka1c x1c h25 n0  V25 f25_1 g_b25  u0 ) (by decide) (by decide) e25 (by decide) (by decide) (g := (mkF m 9 (Sh9 a1c 0 1 b25) [(.int 1), (.int 0), (.ref b25), (.int 0), (.ref a1c)])) rfl (by rw [hml]; rfl) (argsL := [(.ref a1c), (.int (0 : Int32)), (.ref b25), (.int (0 : Int32)), (.int (1 : Int32))]) (rest := []) (lenOf pd_285bCI5bBII29I rfl) rfl (by show 2 * 0 + _ ≤ _; exact Nat.le_of_eq rfl) (hb hby d5_9)
 obtain ⟨rfl, N28q, K28, p28_0⟩ := hQ28
 have N28 := Fr.app N0 N28q
 have f28_5 := f25_2.trans K28 (allS (Or.inr sz_b25) all0)
 refine GoW.sg (mkF m 12 (Sh9 a1c 0 1 b25) [(.int 1)]) (fun t k => st28 t k) ?_
 refine GoW.sg (mkF m 14 (Sh13 a1c 0 1 b25 1) []) (fun t k => XS.istore X28.here hx rfl (hb hby d5_12) rfl (l' := (Sh13 a1c 0 1 b25 1)) rfl k) ?_
 refine GoW.sg (mkF m 16 (Sh13 a1c 0 1 b25 1) [(.int 1)]) (fun t k => XS.iload X28.here hx rfl (hb hby d5_14) rfl k) ?_
 refine GoW.sg (mkF m 17 (Sh13 a1c 0 1 b25 1) [(.int 1), (.int 1)]) (fun t k => XS.iloadN X28.here hx rfl (hb hby d5_16) rfl k) ?_
 refine GoW.sg (mkF m 57 (Sh13 a1c 0 1 b25 1) []) (fun t k => XS.icmpYes X28.here hx rfl (pc0 := 17) (pc' := 57) rfl (hb hby d5_17) rfl (by decide) (by decide) (by decide) k) ?_
 refine GoW.sg (mkF m 58 (Sh13 a1c 0 1 b25 1) [(.ref b25)]) (fun t k => XS.aloadN X28.here hx rfl (hb hby d5_57) rfl rfl k) ?_
 refine GoW.retA X28 hx Bd.returns rfl rfl rfl (hb hby d5_58) Bd.notSynchronized ?_ (by decide) (by decide)
 exact ⟨b25, k25, rfl, N28, f28_5, p28_0, sz_b25⟩
def Q7_3 (Z : State) (a1c : Addr) (ka1c : ClassId) (x1c : Int32) (h0 : Heap) (n0 : Nat) (v : Option Value) (h : Heap) (L : List Loc) : Prop := v = some (.int (0 : Int32)) ∧ Fr n0 L ∧ (h = h0)
theorem ef7_rm7_3 (m : MethodId) (a1c : Addr) : entryFrame m #[(.ref a1c), (.int (1 : Int32))] 2 = (mkF m 0 #[.val (.ref a1c), .val (.int 1)] []) := by first | (simp [entryFrame, mkF, argsToLocals, Value.category, maxLocals]; done) | rfl
set_option maxRecDepth 65536 in
set_option maxHeartbeats 40000000 in
theorem rm7_3 (l : Launch) (Z : State) (a0 : Array Value) (hw : ∀ d ∈ tables_1, d.before a0 Z = true) (ws : List Jvm.Cond) (a1c : Addr) (ka1c : ClassId) (x1c : Int32) (h0 : Heap) (n0 : Nat) (P0 : Arv Z h0 a1c ka1c .byte (1 : Int32) [(.int x1c)] (.int (0 : Int32)))      :
    MetFree l Y7 (head1 (Jvm.Cond.code Y7 jdk_52_method_15_code 2 (some .byte) :: ws) ({ frames := 0, cells := 0, slots := 0, locals := 0 } : Room)) (fun a U => a = #[(.ref a1c), (.int (1 : Int32))] ∧ Z.Warmed39 U.vm ∧ U.heap = h0) (fun _ _ _ _ _ => True) (fun _ U o U' => ∃ v L, o = .returned v ∧ (Q7_3 Z a1c ka1c x1c h0 n0) v U'.heap L ∧ FrameEnd U o U' L 0 0) := by
 refine MetFree.of_bodySF (plainFor_of_name pn_java_lang_StringUTF16) hisR ?_
 intro p e s m args below meth c s₁ Bd hml0 hP hK
 obtain ⟨rfl, hZ, hh⟩ := hP
 have hx := Bd.exec
 have hby := Bd.bytes
 have hml : c.maxLocals = 2 := hml0
 have hown : s.vm.findClass "java/lang/StringUTF16" = some m.cls := findClass_of_methodNamed Bd.named
 have hnm := (name_of_methodNamed Bd.named Bd.method).1
 have X0 : Stand p l e ({ frames := 0, cells := 0, slots := 0, locals := 0 } : Room) s m #[(.ref a1c), (.int (1 : Int32))] below meth c s₁ [] 0 0 := Stand.of_body Bd
 have e0 : s₁.heap = h0 := by rw [← hh, Bd.state]; rfl
 have N0 := Fr.nil n0
 refine GoW.mk ?_
 refine GoW.st (fun t k => castTop (ef7_rm7_3 m a1c) k) ?_
 show GoW p e below s (Q7_3 Z a1c ka1c x1c h0 n0) 0 0 (s₁.setTop (mkF m 0 #[.val (.ref a1c), .val (.int 1)] []))
 refine GoW.sg (mkF m 1 #[.val (.ref a1c), .val (.int 1)] [(.int 1)]) (fun t k => XS.iloadN X0.here hx rfl (hb hby d7_0) rfl k) ?_
 refine GoW.sg (mkF m 2 #[.val (.ref a1c), .val (.int 1)] [(.ref a1c), (.int 1)]) (fun t k => XS.aloadN X0.here hx rfl (hb hby d7_1) rfl rfl k) ?_
 obtain ⟨cl31, Ar31, q31, Sz31, Nn31, Hh31, Gg31⟩ := id P0
 have st31 := X0.arraylength hx (hq_ e0 Ar31.1) (State.isArrayOf_alike hZ.alike Ar31.2.1) (g := (mkF m 2 #[.val (.ref a1c), .val (.int 1)] [(.ref a1c), (.int 1)])) rfl rfl (hb hby d7_2)
 rw [len_of Sz31 Nn31] at st31
 refine GoW.sg (mkF m 3 #[.val (.ref a1c), .val (.int 1)] [(.int 1), (.int 1)]) (fun t k => st31 t k) ?_
 refine GoW.st (fun t k => XS.isub X0.here hx rfl (hb hby d7_3) rfl k) ?_
 rw [show ((1 : Int32) - (1 : Int32)) = (0 : Int32) from by decide]
 show GoW p e below s (Q7_3 Z a1c ka1c x1c h0 n0) 0 0 (s₁.setTop (mkF m 4 #[.val (.ref a1c), .val (.int 1)] [(.int 0)]))
 refine GoW.sg (mkF m 6 #[.val (.ref a1c), .val (.int 1)] [(.int 31), (.int 0)]) (fun t k => XS.bipush X0.here hx rfl (hb hby d7_4) k) ?_
 refine GoW.st (fun t k => XS.iushr X0.here hx rfl (hb hby d7_6) rfl k) ?_
 rw [show ((0 : Int32).toUInt32 >>> ((31 : Int32) &&& 31).toUInt32).toInt32 = (0 : Int32) from by decide]
 show GoW p e below s (Q7_3 Z a1c ka1c x1c h0 n0) 0 0 (s₁.setTop (mkF m 7 #[.val (.ref a1c), .val (.int 1)] [(.int 0)]))
 refine GoW.st (fun t k => XS.i2b X0.here hx rfl (hb hby d7_7) rfl k) ?_
 rw [show (0 : Int32).toInt8.toInt32 = (0 : Int32) from by decide]
 show GoW p e below s (Q7_3 Z a1c ka1c x1c h0 n0) 0 0 (s₁.setTop (mkF m 8 #[.val (.ref a1c), .val (.int 1)] [(.int 0)]))
 refine GoW.retN X0 hx (t := .byte) Bd.returns (by simp) (hb hby d7_8) Bd.notSynchronized ?_ (by decide) (by decide)
 rw [e0]
 exact ⟨rfl, N0, rfl⟩
def Q3_4 (Z : State) (a1c : Addr) (a2c : Addr) (ka2c : ClassId) (x1c : Int32) (x2c : Int32) (h0 : Heap) (n0 : Nat) (v : Option Value) (h : Heap) (L : List Loc) : Prop := ∃ e0 : Addr, ∃ ke0 : ClassId, v = none ∧ Fr n0 L ∧ (Keep h0 h [a1c]) ∧ (Exa Z h a1c "java/lang/String") ∧ (Fld Z h a1c "java/lang/String" "coder" "B" (.int (0 : Int32))) ∧ (Fld Z h a1c "java/lang/String" "value" "[B" (.ref e0)) ∧ (Arv Z h e0 ke0 .byte (1 : Int32) [(.int (lat8 x1c))] (.int (0 : Int32))) ∧ (h0.size ≤ e0)
theorem ef3_rm3_4 (m : MethodId) (a1c : Addr) (a2c : Addr) : entryFrame m #[(.ref a1c), (.ref a2c), (.int (0 : Int32)), (.int (1 : Int32)), .null] 6 = (mkF m 0 #[.val (.ref a1c), .val (.ref a2c), .val (.int 0), .val (.int 1), .val .null, .unset] []) := by first | (simp [entryFrame, mkF, argsToLocals, Value.category, maxLocals]; done) | rfl
set_option maxRecDepth 65536 in
set_option maxHeartbeats 40000000 in
theorem rm3_4 (l : Launch) (Z : State) (a0 : Array Value) (hw : ∀ d ∈ tables_1, d.before a0 Z = true) (ws : List Jvm.Cond) (a1c : Addr) (a2c : Addr) (ka2c : ClassId) (x1c : Int32) (x2c : Int32) (h0 : Heap) (n0 : Nat) (Z0 : n0 ≤ h0.size) (P0 : Exa Z h0 a1c "java/lang/String") (P1 : Fld Z h0 a1c "java/lang/String" "coder" "B" (.int (0 : Int32))) (P2 : Fld Z h0 a1c "java/lang/String" "value" "[B" .null) (P3 : Arv Z h0 a2c ka2c .char (1 : Int32) [(.int x1c)] (.int (0 : Int32))) (P4 : Sta Z h0 "java/lang/String" "COMPACT_STRINGS" "Z" (.int x2c)) (g_a1c : n0 ≤ a1c)  (u0 : ¬ (x2c = (0 : Int32))) (u1 : ¬ ((255 : Int32) < x1c))   :
    MetFree l Y3 (head1 (Jvm.Cond.code Y3 jdk_42_method_149_code 6 none :: ws) ({ frames := 2, cells := 1, slots := 1, locals := 35 } : Room)) (fun a U => a = #[(.ref a1c), (.ref a2c), (.int (0 : Int32)), (.int (1 : Int32)), .null] ∧ Z.Warmed39 U.vm ∧ U.heap = h0) (fun _ _ _ _ _ => True) (fun _ U o U' => ∃ v L, o = .returned v ∧ (Q3_4 Z a1c a2c ka2c x1c x2c h0 n0) v U'.heap L ∧ FrameEnd U o U' L 1 1) := by
 refine MetFree.of_bodySF (plainFor_of_name pn_java_lang_String) hisR ?_
 intro p e s m args below meth c s₁ Bd hml0 hP hK
 obtain ⟨rfl, hZ, hh⟩ := hP
 have hx := Bd.exec
 have hby := Bd.bytes
 have hml : c.maxLocals = 6 := hml0
 have hown : s.vm.findClass "java/lang/String" = some m.cls := findClass_of_methodNamed Bd.named
 have hnm := (name_of_methodNamed Bd.named Bd.method).1
 have X0 : Stand p l e ({ frames := 2, cells := 1, slots := 1, locals := 35 } : Room) s m #[(.ref a1c), (.ref a2c), (.int (0 : Int32)), (.int (1 : Int32)), .null] below meth c s₁ [] 0 0 := Stand.of_body Bd
 have e0 : s₁.heap = h0 := by rw [← hh, Bd.state]; rfl
 have N0 := Fr.nil n0
 refine GoW.mk ?_
 refine GoW.st (fun t k => castTop (ef3_rm3_4 m a1c a2c) k) ?_
 show GoW p e below s (Q3_4 Z a1c a2c ka2c x1c x2c h0 n0) 1 1 (s₁.setTop (mkF m 0 (Sh0 a1c a2c 0 1) []))
 refine GoW.sg (mkF m 1 (Sh0 a1c a2c 0 1) [(.ref a1c)]) (fun t k => XS.aloadN X0.here hx rfl (hb hby d3_0) rfl rfl k) ?_
 obtain ⟨T35, X35, e35, st35⟩ := initO X0 hx hZ hown (ww hw 16 rfl) (ww hw 17 rfl) (ww hw 18 rfl) e0 (g := (mkF m 1 (Sh0 a1c a2c 0 1) [(.ref a1c)])) rfl (by rw [hml]; rfl) rfl (hb hby d3_1) (by decide) (W := 0) (by show 2 * 0 + _ ≤ _; exact Nat.le_of_eq rfl) (by decide)
 refine GoW.sg (mkF m 4 (Sh0 a1c a2c 0 1) []) (fun t k => st35 t k) ?_
 refine GoW.sg (mkF m 5 (Sh0 a1c a2c 0 1) [(.int 1)]) (fun t k => XS.iloadN X35.here hx rfl (hb hby d3_4) rfl k) ?_
 refine GoW.sg (mkF m 27 (Sh0 a1c a2c 0 1) []) (fun t k => XS.ifYes X35.here hx rfl (pc0 := 5) (pc' := 27) rfl (hb hby d3_5) rfl (by decide) (by decide) (by decide) k) ?_
 obtain ⟨T36, X36, e36, st36⟩ := getS (host := "") X35 hx hZ hown (ww hw 19 rfl) Via.refl e35 P4 (g := (mkF m 27 (Sh0 a1c a2c 0 1) [])) rfl (hb hby d3_27)
 refine GoW.sg (mkF m 30 (Sh0 a1c a2c 0 1) [(.int x2c)]) (fun t k => st36 t k) ?_
 refine GoW.sg (mkF m 33 (Sh0 a1c a2c 0 1) []) (fun t k => XS.ifNo X36.here hx rfl (hb hby d3_30) rfl ((if0 _ _).trans (feq u0).1) k) ?_
 refine GoW.sg (mkF m 34 (Sh0 a1c a2c 0 1) [(.ref a2c)]) (fun t k => XS.aloadN X36.here hx rfl (hb hby d3_33) rfl rfl k) ?_
 refine GoW.sg (mkF m 35 (Sh0 a1c a2c 0 1) [(.int 0), (.ref a2c)]) (fun t k => XS.iloadN X36.here hx rfl (hb hby d3_34) rfl k) ?_
 refine GoW.sg (mkF m 36 (Sh0 a1c a2c 0 1) [(.int 1), (.int 0), (.ref a2c)]) (fun t k => XS.iloadN X36.here hx rfl (hb hby d3_35) rfl k) ?_
 obtain ⟨_, T41, L41, X41, hQ41, st41⟩ := own_callS X36 hx hZ hown (y := Y5) (ww hw 20 rfl) (ww hw 21 rfl) (ww hw 22 rfl) (ww hw 23 rfl) (by decide) 0 (rm5_2 l Z a0 hw [] a2c ka2c x1c h0 n0 Z0 P3   u1 ) (by decide) (by decide) e36 (by decide) (by decide) (g := (mkF m 36 (Sh0 a1c a2c 0 1) [(.int 1), (.int 0), (.ref a2c)])) rfl (by rw [hml]; rfl) (argsL := [(.ref a2c), (.int (0 : Int32)), (.int (1 : Int32))]) (rest := []) (lenOf pd_285bCII295bB rfl) rfl (by show 2 * 0 + _ ≤ _; exact Nat.le_of_eq rfl) (hb hby d3_36)
 obtain ⟨b41_e0, k41_ke0, rfl, N41q, K41, p41_0, hz_b41_e0⟩ := hQ41
 have sz_b41_e0 : h0.size ≤ b41_e0 := Nat.le_trans (Keep.refl h0 [a1c]).1 hz_b41_e0
 have ne_a1c_b41_e0 : a1c ≠ b41_e0 := Nat.ne_of_lt (Nat.lt_of_lt_of_le P0.lt hz_b41_e0)
 have N41 := Fr.app N0 N41q
 have f41_1 := P0.keep K41
 have f41_2 := P1.keep K41 nin0
 have f41_3 := P2.keep K41 nin0
 have f41_6 := (Keep.refl h0 [a1c]).trans K41 all0
 refine GoW.sg (mkF m 39 (Sh0 a1c a2c 0 1) [(.ref b41_e0)]) (fun t k => st41 t k) ?_
 refine GoW.sg (mkF m 41 (Sh14 a1c a2c 0 1 b41_e0) []) (fun t k => XS.astore X41.here hx rfl (hb hby d3_39) rfl rfl (l' := (Sh14 a1c a2c 0 1 b41_e0)) rfl k) ?_
 refine GoW.sg (mkF m 42 (Sh14 a1c a2c 0 1 b41_e0) [(.ref a1c)]) (fun t k => XS.aloadN X41.here hx rfl (hb hby d3_41) rfl rfl k) ?_
 refine GoW.sg (mkF m 44 (Sh14 a1c a2c 0 1 b41_e0) [(.ref b41_e0), (.ref a1c)]) (fun t k => XS.aload X41.here hx rfl (hb hby d3_42) rfl rfl k) ?_
 refine GoW.sg (mkF m 45 (Sh14 a1c a2c 0 1 b41_e0) [(.int 1), (.ref b41_e0), (.ref a1c)]) (fun t k => XS.iloadN X41.here hx rfl (hb hby d3_44) rfl k) ?_
 obtain ⟨_, T43, L43, X43, hQ43, st43⟩ := own_callS X41 hx hZ hown (y := Y7) (ww hw 28 rfl) (ww hw 29 rfl) (ww hw 22 rfl) (ww hw 30 rfl) (by decide) 1 (rm7_3 l Z a0 hw [] b41_e0 k41_ke0 (lat8 x1c) T41.heap n0  p41_0    ) (by decide) (by decide) rfl (by decide) (by decide) (g := (mkF m 45 (Sh14 a1c a2c 0 1 b41_e0) [(.int 1), (.ref b41_e0), (.ref a1c)])) rfl (by rw [hml]; rfl) (argsL := [(.ref b41_e0), (.int (1 : Int32))]) (rest := [(.ref a1c)]) (lenOf pd_285bBI29B rfl) rfl (by show 2 * 0 + _ ≤ _; exact Nat.le_of_eq rfl) (hb hby d3_45)
 obtain ⟨rfl, N43q, e43⟩ := hQ43
 have N43 := Fr.app N41 N43q
 refine GoW.sg (mkF m 48 (Sh14 a1c a2c 0 1 b41_e0) [(.int 0), (.ref a1c)]) (fun t k => st43 t k) ?_
 obtain ⟨T44, h44, X44, e44, W44, st44⟩ := putF X43 hx hZ hown (host := "") (Or.inl (ww hw 31 rfl)) Via.refl e43 f41_2 f41_1 (Or.inr ⟨(ww hw 32 rfl), rfl, hnm⟩) (ww hw 6 rfl) (ty := .byte) (by decide) rfl rfl (g := (mkF m 48 (Sh14 a1c a2c 0 1 b41_e0) [(.int 0), (.ref a1c)])) rfl rfl (hb hby d3_48)
 have N44 := Fr.snoc X44 N43 g_a1c
 have f44_8 := f41_1.wr W44
 have f44_9 := f41_3.other W44 (Or.inr (slot_ne (t := (.array .byte)) (t' := .byte) (Or.inr (ww hw 34 rfl)) (Or.inr (ww hw 32 rfl)) (by decide) (by decide) (by decide)))
 have f44_11 := f41_6.wr W44 (Or.inl (List.mem_of_getElem? (i := 0) rfl))
 have f44_13 := p41_0.other W44 (Ne.symm ne_a1c_b41_e0)
 have F44coder : Fld Z h44 a1c "java/lang/String" "coder" "B" (.int (0 : Int32)) := f41_2.same W44
 refine GoW.sg (mkF m 51 (Sh14 a1c a2c 0 1 b41_e0) []) (fun t k => st44 t k) ?_
 refine GoW.sg (mkF m 52 (Sh14 a1c a2c 0 1 b41_e0) [(.ref a1c)]) (fun t k => XS.aloadN X44.here hx rfl (hb hby d3_51) rfl rfl k) ?_
 refine GoW.sg (mkF m 54 (Sh14 a1c a2c 0 1 b41_e0) [(.ref b41_e0), (.ref a1c)]) (fun t k => XS.aload X44.here hx rfl (hb hby d3_52) rfl rfl k) ?_
 obtain ⟨T45, h45, X45, e45, W45, st45⟩ := putF X44 hx hZ hown (host := "") (Or.inl (ww hw 33 rfl)) Via.refl e44 f44_9 f44_8 (Or.inr ⟨(ww hw 34 rfl), rfl, hnm⟩) (ww hw 6 rfl) (ty := (.array .byte)) (by decide) rfl rfl (g := (mkF m 54 (Sh14 a1c a2c 0 1 b41_e0) [(.ref b41_e0), (.ref a1c)])) rfl rfl (hb hby d3_54)
 have N45 := Fr.snoc X45 N44 g_a1c
 have f45_14 := f44_8.wr W45
 have f45_15 := F44coder.other W45 (Or.inr (slot_ne (t := .byte) (t' := (.array .byte)) (Or.inr (ww hw 32 rfl)) (Or.inr (ww hw 34 rfl)) (by decide) (by decide) (by decide)))
 have f45_17 := f44_11.wr W45 (Or.inl (List.mem_of_getElem? (i := 0) rfl))
 have f45_19 := f44_13.other W45 (Ne.symm ne_a1c_b41_e0)
 have F45value : Fld Z h45 a1c "java/lang/String" "value" "[B" (.ref b41_e0) := f44_9.same W45
 refine GoW.sg (mkF m 57 (Sh14 a1c a2c 0 1 b41_e0) []) (fun t k => st45 t k) ?_
 refine GoW.retV X45 hx Bd.returns (hb hby d3_57) Bd.notSynchronized ?_ (by decide) (by decide)
 rw [e45]
 exact ⟨b41_e0, k41_ke0, rfl, N45, f45_17, f45_14, f45_15, F45value, f45_19, sz_b41_e0⟩
def Q2_5 (Z : State) (a1c : Addr) (a2c : Addr) (ka2c : ClassId) (x1c : Int32) (x2c : Int32) (h0 : Heap) (n0 : Nat) (v : Option Value) (h : Heap) (L : List Loc) : Prop := ∃ e0 : Addr, ∃ ke0 : ClassId, v = none ∧ Fr n0 L ∧ (Keep h0 h [a1c]) ∧ (Exa Z h a1c "java/lang/String") ∧ (Fld Z h a1c "java/lang/String" "coder" "B" (.int (0 : Int32))) ∧ (Fld Z h a1c "java/lang/String" "value" "[B" (.ref e0)) ∧ (Arv Z h e0 ke0 .byte (1 : Int32) [(.int (lat8 x1c))] (.int (0 : Int32))) ∧ (h0.size ≤ e0)
theorem ef2_rm2_5 (m : MethodId) (a1c : Addr) (a2c : Addr) : entryFrame m #[(.ref a1c), (.ref a2c)] 2 = (mkF m 0 #[.val (.ref a1c), .val (.ref a2c)] []) := by first | (simp [entryFrame, mkF, argsToLocals, Value.category, maxLocals]; done) | rfl
set_option maxRecDepth 65536 in
set_option maxHeartbeats 40000000 in
theorem rm2_5 (l : Launch) (Z : State) (a0 : Array Value) (hw : ∀ d ∈ tables_1, d.before a0 Z = true) (ws : List Jvm.Cond) (a1c : Addr) (a2c : Addr) (ka2c : ClassId) (x1c : Int32) (x2c : Int32) (h0 : Heap) (n0 : Nat) (Z0 : n0 ≤ h0.size) (P0 : Exa Z h0 a1c "java/lang/String") (P1 : Fld Z h0 a1c "java/lang/String" "coder" "B" (.int (0 : Int32))) (P2 : Fld Z h0 a1c "java/lang/String" "value" "[B" .null) (P3 : Arv Z h0 a2c ka2c .char (1 : Int32) [(.int x1c)] (.int (0 : Int32))) (P4 : Sta Z h0 "java/lang/String" "COMPACT_STRINGS" "Z" (.int x2c)) (g_a1c : n0 ≤ a1c)  (u0 : ¬ (x2c = (0 : Int32))) (u1 : ¬ ((255 : Int32) < x1c))   :
    MetFree l Y2 (head1 (Jvm.Cond.code Y2 jdk_42_method_3_code 2 none :: ws) ({ frames := 3, cells := 1, slots := 1, locals := 52 } : Room)) (fun a U => a = #[(.ref a1c), (.ref a2c)] ∧ Z.Warmed39 U.vm ∧ U.heap = h0) (fun _ _ _ _ _ => True) (fun _ U o U' => ∃ v L, o = .returned v ∧ (Q2_5 Z a1c a2c ka2c x1c x2c h0 n0) v U'.heap L ∧ FrameEnd U o U' L 1 1) := by
 refine MetFree.of_bodySF (plainFor_of_name pn_java_lang_String) hisR ?_
 intro p e s m args below meth c s₁ Bd hml0 hP hK
 obtain ⟨rfl, hZ, hh⟩ := hP
 have hx := Bd.exec
 have hby := Bd.bytes
 have hml : c.maxLocals = 2 := hml0
 have hown : s.vm.findClass "java/lang/String" = some m.cls := findClass_of_methodNamed Bd.named
 have hnm := (name_of_methodNamed Bd.named Bd.method).1
 have X0 : Stand p l e ({ frames := 3, cells := 1, slots := 1, locals := 52 } : Room) s m #[(.ref a1c), (.ref a2c)] below meth c s₁ [] 0 0 := Stand.of_body Bd
 have e0 : s₁.heap = h0 := by rw [← hh, Bd.state]; rfl
 have N0 := Fr.nil n0
 refine GoW.mk ?_
 refine GoW.st (fun t k => castTop (ef2_rm2_5 m a1c a2c) k) ?_
 show GoW p e below s (Q2_5 Z a1c a2c ka2c x1c x2c h0 n0) 1 1 (s₁.setTop (mkF m 0 #[.val (.ref a1c), .val (.ref a2c)] []))
 refine GoW.sg (mkF m 1 #[.val (.ref a1c), .val (.ref a2c)] [(.ref a1c)]) (fun t k => XS.aloadN X0.here hx rfl (hb hby d2_0) rfl rfl k) ?_
 refine GoW.sg (mkF m 2 #[.val (.ref a1c), .val (.ref a2c)] [(.ref a2c), (.ref a1c)]) (fun t k => XS.aloadN X0.here hx rfl (hb hby d2_1) rfl rfl k) ?_
 refine GoW.sg (mkF m 3 #[.val (.ref a1c), .val (.ref a2c)] [(.int 0), (.ref a2c), (.ref a1c)]) (fun t k => XS.iconst X0.here hx rfl (hb hby d2_2) k) ?_
 refine GoW.sg (mkF m 4 #[.val (.ref a1c), .val (.ref a2c)] [(.ref a2c), (.int 0), (.ref a2c), (.ref a1c)]) (fun t k => XS.aloadN X0.here hx rfl (hb hby d2_3) rfl rfl k) ?_
 obtain ⟨cl47, Ar47, q47, Sz47, Nn47, Hh47, Gg47⟩ := id P3
 have st47 := X0.arraylength hx (hq_ e0 Ar47.1) (State.isArrayOf_alike hZ.alike Ar47.2.1) (g := (mkF m 4 #[.val (.ref a1c), .val (.ref a2c)] [(.ref a2c), (.int 0), (.ref a2c), (.ref a1c)])) rfl rfl (hb hby d2_4)
 rw [len_of Sz47 Nn47] at st47
 refine GoW.sg (mkF m 5 #[.val (.ref a1c), .val (.ref a2c)] [(.int 1), (.int 0), (.ref a2c), (.ref a1c)]) (fun t k => st47 t k) ?_
 refine GoW.sg (mkF m 6 #[.val (.ref a1c), .val (.ref a2c)] [.null, (.int 1), (.int 0), (.ref a2c), (.ref a1c)]) (fun t k => XS.aconstNull X0.here hx rfl (hb hby d2_5) k) ?_
 obtain ⟨_, _, ⟨T54, L54, k54, n54⟩, -, X54, ⟨Lc54, hQ54, l54, y54, z54⟩, st54⟩ := X0.specialBack hx (y := Y3) rfl hown (mvT hZ (ww hw 12 rfl)) (mvT hZ (ww hw 13 rfl)) (mvT hZ (ww hw 15 rfl)) (by decide) (backOf (W := 0) (rm3_4 l Z a0 hw [] a1c a2c ka2c x1c x2c h0 n0 Z0 P0 P1 P2 P3 P4 g_a1c  u0 u1 ) hZ (ww hw 15 rfl) (ww hw 7 rfl) (by decide) (by decide)) (g := (mkF m 6 #[.val (.ref a1c), .val (.ref a2c)] [.null, (.int 1), (.int 0), (.ref a2c), (.ref a1c)])) rfl (by rw [hml]; rfl) (Steps.refl _) (a := a1c) (argsL := [(.ref a2c), (.int (0 : Int32)), (.int (1 : Int32)), .null]) (rest := []) (lenOf pd_285bCIILjava2flang2fVoid3b29V rfl) rfl (by show 2 * 0 + _ ≤ _; exact Nat.le_of_eq rfl) (hb hby d2_6) (fun _ _ => ⟨rfl, e0, (by decide : 0 + 1 ≤ _), (by decide : 0 + 1 ≤ _)⟩)
 dsimp only [Pt.U, Pt.locs, Pt.cells, Pt.slots] at X54 l54 y54 z54 st54 hQ54
 subst l54 y54 z54
 obtain ⟨b54_e0, k54_ke0, rfl, N54q, K54, p54_0, p54_1, p54_2, p54_3, hz_b54_e0⟩ := hQ54
 have sz_b54_e0 : h0.size ≤ b54_e0 := Nat.le_trans (Keep.refl h0 [a1c]).1 hz_b54_e0
 have N54 := Fr.app N0 N54q
 have f54_2 := (Keep.refl h0 [a1c]).trans K54 (allS (Or.inl (List.mem_of_getElem? (i := 0) rfl)) all0)
 refine GoW.sg (mkF m 9 #[.val (.ref a1c), .val (.ref a2c)] []) (fun t k => st54.trans k) ?_
 refine GoW.retV X54 hx Bd.returns (hb hby d2_9) Bd.notSynchronized ?_ (by decide) (by decide)
 exact ⟨b54_e0, k54_ke0, rfl, N54, f54_2, p54_0, p54_1, p54_2, p54_3, sz_b54_e0⟩
def Q1_6 (Z : State) (x1c : Int32) (x2c : Int32) (h0 : Heap) (n0 : Nat) (v : Option Value) (h : Heap) (L : List Loc) : Prop := ∃ e0 : Addr, ∃ e1 : Addr, ∃ ke1 : ClassId, v = some (.ref e0) ∧ Fr n0 L ∧ (Keep h0 h []) ∧ (Exa Z h e0 "java/lang/String") ∧ (Fld Z h e0 "java/lang/String" "coder" "B" (.int (0 : Int32))) ∧ (Fld Z h e0 "java/lang/String" "value" "[B" (.ref e1)) ∧ (Arv Z h e1 ke1 .byte (1 : Int32) [(.int (lat8 (chA x1c)))] (.int (0 : Int32))) ∧ (h0.size ≤ e0) ∧ (h0.size ≤ e1)
theorem ef1_rm1_6 (m : MethodId) (x1c : Int32) : entryFrame m #[(.int (1 : Int32)), (.int x1c)] 5 = (mkF m 0 #[.val (.int 1), .val (.int x1c), .unset, .unset, .unset] []) := by first | (simp [entryFrame, mkF, argsToLocals, Value.category, maxLocals]; done) | rfl
set_option maxRecDepth 65536 in
set_option maxHeartbeats 40000000 in
theorem rm1_6 (l : Launch) (Z : State) (a0 : Array Value) (hw : ∀ d ∈ tables_1, d.before a0 Z = true) (ws : List Jvm.Cond) (x1c : Int32) (x2c : Int32) (h0 : Heap) (n0 : Nat) (Z0 : n0 ≤ h0.size) (P0 : Sta Z h0 "java/lang/String" "COMPACT_STRINGS" "Z" (.int x2c))   (u0 : ¬ (x2c = (0 : Int32)))   :
    MetFree l Y1 (head1 (Jvm.Cond.code Y1 method_2_code 5 (some (.object "java/lang/String")) :: ws) ({ frames := 4, cells := 3, slots := 6, locals := 66 } : Room)) (fun a U => a = #[(.int (1 : Int32)), (.int x1c)] ∧ Z.Warmed39 U.vm ∧ U.heap = h0) (fun _ _ _ _ _ => True) (fun _ U o U' => ∃ v L, o = .returned v ∧ (Q1_6 Z x1c x2c h0 n0) v U'.heap L ∧ FrameEnd U o U' L 3 6) := by
 refine MetFree.of_bodySF (plainFor_of_name pn_com_example_relaystack_relaystack_OptionValuePinLaw) hisR ?_
 intro p e s m args below meth c s₁ Bd hml0 hP hK
 obtain ⟨rfl, hZ, hh⟩ := hP
 have hx := Bd.exec
 have hby := Bd.bytes
 have hml : c.maxLocals = 5 := hml0
 have hown : s.vm.findClass "com/example/relaystack/relaystack/OptionValuePinLaw" = some m.cls := findClass_of_methodNamed Bd.named
 have hnm := (name_of_methodNamed Bd.named Bd.method).1
 have X0 : Stand p l e ({ frames := 4, cells := 3, slots := 6, locals := 66 } : Room) s m #[(.int (1 : Int32)), (.int x1c)] below meth c s₁ [] 0 0 := Stand.of_body Bd
 have e0 : s₁.heap = h0 := by rw [← hh, Bd.state]; rfl
 have N0 := Fr.nil n0
 refine GoW.mk ?_
 refine GoW.st (fun t k => castTop (ef1_rm1_6 m x1c) k) ?_
 show GoW p e below s (Q1_6 Z x1c x2c h0 n0) 3 6 (s₁.setTop (mkF m 0 (Sh1 1 x1c) []))
 refine GoW.sg (mkF m 1 (Sh1 1 x1c) [(.int x1c)]) (fun t k => XS.iloadN X0.here hx rfl (hb hby d1_0) rfl k) ?_
 refine GoW.sg (mkF m 4 (Sh1 1 x1c) [(.int 255), (.int x1c)]) (fun t k => XS.sipush X0.here hx rfl (hb hby d1_1) k) ?_
 refine GoW.sg (mkF m 5 (Sh1 1 x1c) [(.int (x1c &&& (255 : Int32)))]) (fun t k => XS.iand X0.here hx rfl (hb hby d1_4) rfl k) ?_
 refine GoW.sg (mkF m 6 (Sh1 1 x1c) [(.int (x1c &&& (255 : Int32)).toUInt32.toUInt16.toUInt32.toInt32)]) (fun t k => XS.i2c X0.here hx rfl (hb hby d1_5) rfl k) ?_
 refine GoW.sg (mkF m 7 (Sh2 1 x1c ((x1c &&& (255 : Int32)).toUInt32.toUInt16.toUInt32.toInt32)) []) (fun t k => XS.istoreN X0.here hx rfl (hb hby d1_6) rfl (l' := (Sh2 1 x1c ((x1c &&& (255 : Int32)).toUInt32.toUInt16.toUInt32.toInt32))) rfl k) ?_
 refine GoW.sg (mkF m 8 (Sh2 1 x1c ((x1c &&& (255 : Int32)).toUInt32.toUInt16.toUInt32.toInt32)) [(.int x1c)]) (fun t k => XS.iloadN X0.here hx rfl (hb hby d1_7) rfl k) ?_
 refine GoW.sg (mkF m 10 (Sh2 1 x1c ((x1c &&& (255 : Int32)).toUInt32.toUInt16.toUInt32.toInt32)) [(.int 8), (.int x1c)]) (fun t k => XS.bipush X0.here hx rfl (hb hby d1_8) k) ?_
 refine GoW.sg (mkF m 11 (Sh2 1 x1c ((x1c &&& (255 : Int32)).toUInt32.toUInt16.toUInt32.toInt32)) [(.int (x1c.toUInt32 >>> ((8 : Int32) &&& 31).toUInt32).toInt32)]) (fun t k => XS.iushr X0.here hx rfl (hb hby d1_10) rfl k) ?_
 refine GoW.sg (mkF m 14 (Sh2 1 x1c ((x1c &&& (255 : Int32)).toUInt32.toUInt16.toUInt32.toInt32)) [(.int 255), (.int (x1c.toUInt32 >>> ((8 : Int32) &&& 31).toUInt32).toInt32)]) (fun t k => XS.sipush X0.here hx rfl (hb hby d1_11) k) ?_
 refine GoW.sg (mkF m 15 (Sh2 1 x1c ((x1c &&& (255 : Int32)).toUInt32.toUInt16.toUInt32.toInt32)) [(.int ((x1c.toUInt32 >>> ((8 : Int32) &&& 31).toUInt32).toInt32 &&& (255 : Int32)))]) (fun t k => XS.iand X0.here hx rfl (hb hby d1_14) rfl k) ?_
 refine GoW.sg (mkF m 16 (Sh2 1 x1c ((x1c &&& (255 : Int32)).toUInt32.toUInt16.toUInt32.toInt32)) [(.int ((x1c.toUInt32 >>> ((8 : Int32) &&& 31).toUInt32).toInt32 &&& (255 : Int32)).toUInt32.toUInt16.toUInt32.toInt32)]) (fun t k => XS.i2c X0.here hx rfl (hb hby d1_15) rfl k) ?_
 refine GoW.sg (mkF m 17 (Sh3 1 x1c ((x1c &&& (255 : Int32)).toUInt32.toUInt16.toUInt32.toInt32) (((x1c.toUInt32 >>> ((8 : Int32) &&& 31).toUInt32).toInt32 &&& (255 : Int32)).toUInt32.toUInt16.toUInt32.toInt32)) []) (fun t k => XS.istoreN X0.here hx rfl (hb hby d1_16) rfl (l' := (Sh3 1 x1c ((x1c &&& (255 : Int32)).toUInt32.toUInt16.toUInt32.toInt32) (((x1c.toUInt32 >>> ((8 : Int32) &&& 31).toUInt32).toInt32 &&& (255 : Int32)).toUInt32.toUInt16.toUInt32.toInt32))) rfl k) ?_
 refine GoW.sg (mkF m 18 (Sh3 1 x1c ((x1c &&& (255 : Int32)).toUInt32.toUInt16.toUInt32.toInt32) (((x1c.toUInt32 >>> ((8 : Int32) &&& 31).toUInt32).toInt32 &&& (255 : Int32)).toUInt32.toUInt16.toUInt32.toInt32)) [(.int x1c)]) (fun t k => XS.iloadN X0.here hx rfl (hb hby d1_17) rfl k) ?_
 refine GoW.sg (mkF m 20 (Sh3 1 x1c ((x1c &&& (255 : Int32)).toUInt32.toUInt16.toUInt32.toInt32) (((x1c.toUInt32 >>> ((8 : Int32) &&& 31).toUInt32).toInt32 &&& (255 : Int32)).toUInt32.toUInt16.toUInt32.toInt32)) [(.int 16), (.int x1c)]) (fun t k => XS.bipush X0.here hx rfl (hb hby d1_18) k) ?_
 refine GoW.sg (mkF m 21 (Sh3 1 x1c ((x1c &&& (255 : Int32)).toUInt32.toUInt16.toUInt32.toInt32) (((x1c.toUInt32 >>> ((8 : Int32) &&& 31).toUInt32).toInt32 &&& (255 : Int32)).toUInt32.toUInt16.toUInt32.toInt32)) [(.int (x1c.toUInt32 >>> ((16 : Int32) &&& 31).toUInt32).toInt32)]) (fun t k => XS.iushr X0.here hx rfl (hb hby d1_20) rfl k) ?_
 refine GoW.sg (mkF m 24 (Sh3 1 x1c ((x1c &&& (255 : Int32)).toUInt32.toUInt16.toUInt32.toInt32) (((x1c.toUInt32 >>> ((8 : Int32) &&& 31).toUInt32).toInt32 &&& (255 : Int32)).toUInt32.toUInt16.toUInt32.toInt32)) [(.int 255), (.int (x1c.toUInt32 >>> ((16 : Int32) &&& 31).toUInt32).toInt32)]) (fun t k => XS.sipush X0.here hx rfl (hb hby d1_21) k) ?_
 refine GoW.sg (mkF m 25 (Sh3 1 x1c ((x1c &&& (255 : Int32)).toUInt32.toUInt16.toUInt32.toInt32) (((x1c.toUInt32 >>> ((8 : Int32) &&& 31).toUInt32).toInt32 &&& (255 : Int32)).toUInt32.toUInt16.toUInt32.toInt32)) [(.int ((x1c.toUInt32 >>> ((16 : Int32) &&& 31).toUInt32).toInt32 &&& (255 : Int32)))]) (fun t k => XS.iand X0.here hx rfl (hb hby d1_24) rfl k) ?_
 refine GoW.sg (mkF m 26 (Sh3 1 x1c ((x1c &&& (255 : Int32)).toUInt32.toUInt16.toUInt32.toInt32) (((x1c.toUInt32 >>> ((8 : Int32) &&& 31).toUInt32).toInt32 &&& (255 : Int32)).toUInt32.toUInt16.toUInt32.toInt32)) [(.int ((x1c.toUInt32 >>> ((16 : Int32) &&& 31).toUInt32).toInt32 &&& (255 : Int32)).toUInt32.toUInt16.toUInt32.toInt32)]) (fun t k => XS.i2c X0.here hx rfl (hb hby d1_25) rfl k) ?_
 refine GoW.sg (mkF m 28 (Sh4 1 x1c ((x1c &&& (255 : Int32)).toUInt32.toUInt16.toUInt32.toInt32) (((x1c.toUInt32 >>> ((8 : Int32) &&& 31).toUInt32).toInt32 &&& (255 : Int32)).toUInt32.toUInt16.toUInt32.toInt32) (((x1c.toUInt32 >>> ((16 : Int32) &&& 31).toUInt32).toInt32 &&& (255 : Int32)).toUInt32.toUInt16.toUInt32.toInt32)) []) (fun t k => XS.istore X0.here hx rfl (hb hby d1_26) rfl (l' := (Sh4 1 x1c ((x1c &&& (255 : Int32)).toUInt32.toUInt16.toUInt32.toInt32) (((x1c.toUInt32 >>> ((8 : Int32) &&& 31).toUInt32).toInt32 &&& (255 : Int32)).toUInt32.toUInt16.toUInt32.toInt32) (((x1c.toUInt32 >>> ((16 : Int32) &&& 31).toUInt32).toInt32 &&& (255 : Int32)).toUInt32.toUInt16.toUInt32.toInt32))) rfl k) ?_
 have loA := (own_rA x1c).1
 have hiA := (own_rA x1c).2
 have loB := (own_rB x1c).1
 have hiB := (own_rB x1c).2
 have loC := (own_rC x1c).1
 have hiC := (own_rC x1c).2
 refine GoW.sg (mkF m 29 (Sh4 1 x1c ((x1c &&& (255 : Int32)).toUInt32.toUInt16.toUInt32.toInt32) (((x1c.toUInt32 >>> ((8 : Int32) &&& 31).toUInt32).toInt32 &&& (255 : Int32)).toUInt32.toUInt16.toUInt32.toInt32) (((x1c.toUInt32 >>> ((16 : Int32) &&& 31).toUInt32).toInt32 &&& (255 : Int32)).toUInt32.toUInt16.toUInt32.toInt32)) [(.int 1)]) (fun t k => XS.iloadN X0.here hx rfl (hb hby d1_28) rfl k) ?_
 refine GoW.sg (mkF m 43 (Sh4 1 x1c ((x1c &&& (255 : Int32)).toUInt32.toUInt16.toUInt32.toInt32) (((x1c.toUInt32 >>> ((8 : Int32) &&& 31).toUInt32).toInt32 &&& (255 : Int32)).toUInt32.toUInt16.toUInt32.toInt32) (((x1c.toUInt32 >>> ((16 : Int32) &&& 31).toUInt32).toInt32 &&& (255 : Int32)).toUInt32.toUInt16.toUInt32.toInt32)) []) (fun t k => XS.ifYes X0.here hx rfl (pc0 := 29) (pc' := 43) rfl (hb hby d1_29) rfl (by decide) (by decide) (by decide) k) ?_
 refine GoW.sg (mkF m 44 (Sh4 1 x1c ((x1c &&& (255 : Int32)).toUInt32.toUInt16.toUInt32.toInt32) (((x1c.toUInt32 >>> ((8 : Int32) &&& 31).toUInt32).toInt32 &&& (255 : Int32)).toUInt32.toUInt16.toUInt32.toInt32) (((x1c.toUInt32 >>> ((16 : Int32) &&& 31).toUInt32).toInt32 &&& (255 : Int32)).toUInt32.toUInt16.toUInt32.toInt32)) [(.int 1)]) (fun t k => XS.iloadN X0.here hx rfl (hb hby d1_43) rfl k) ?_
 refine GoW.sg (mkF m 45 (Sh4 1 x1c ((x1c &&& (255 : Int32)).toUInt32.toUInt16.toUInt32.toInt32) (((x1c.toUInt32 >>> ((8 : Int32) &&& 31).toUInt32).toInt32 &&& (255 : Int32)).toUInt32.toUInt16.toUInt32.toInt32) (((x1c.toUInt32 >>> ((16 : Int32) &&& 31).toUInt32).toInt32 &&& (255 : Int32)).toUInt32.toUInt16.toUInt32.toInt32)) [(.int 1), (.int 1)]) (fun t k => XS.iconst X0.here hx rfl (hb hby d1_44) k) ?_
 refine GoW.sg (mkF m 48 (Sh4 1 x1c ((x1c &&& (255 : Int32)).toUInt32.toUInt16.toUInt32.toInt32) (((x1c.toUInt32 >>> ((8 : Int32) &&& 31).toUInt32).toInt32 &&& (255 : Int32)).toUInt32.toUInt16.toUInt32.toInt32) (((x1c.toUInt32 >>> ((16 : Int32) &&& 31).toUInt32).toInt32 &&& (255 : Int32)).toUInt32.toUInt16.toUInt32.toInt32)) []) (fun t k => XS.icmpNo X0.here hx rfl (hb hby d1_45) rfl (by decide) k) ?_
 obtain ⟨T56, h56, X56, e56, E56, A56, D56, -, st56⟩ := newO X0 hx hZ hown (ww hw 5 rfl) (ww hw 6 rfl) (ww hw 7 rfl) e0 (g := (mkF m 48 (Sh4 1 x1c ((x1c &&& (255 : Int32)).toUInt32.toUInt16.toUInt32.toInt32) (((x1c.toUInt32 >>> ((8 : Int32) &&& 31).toUInt32).toInt32 &&& (255 : Int32)).toUInt32.toUInt16.toUInt32.toInt32) (((x1c.toUInt32 >>> ((16 : Int32) &&& 31).toUInt32).toInt32 &&& (255 : Int32)).toUInt32.toUInt16.toUInt32.toInt32)) [])) rfl (hb hby d1_48) (by decide) (by decide)
 obtain ⟨b56, g56⟩ : ∃ z, z = h0.size := ⟨_, rfl⟩
 rw [← g56] at A56 D56 st56
 have g_b56 : n0 ≤ b56 := Nat.le_trans Z0 (Nat.le_of_eq g56.symm)
 have sz_b56 : h0.size ≤ b56 := Nat.le_trans (Keep.refl h0 []).1 (Nat.le_of_eq g56.symm)
 have f56_1 := P0.ext E56
 have f56_2 := (Keep.refl h0 []).ext E56
 have f56_3 := Nat.le_trans Z0 E56.1
 have F56coder : Fld Z h56 b56 "java/lang/String" "coder" "B" (.int (0 : Int32)) := D56 (Or.inr (ww hw 32 rfl)) (ty := .byte) (by decide)
 have F56value : Fld Z h56 b56 "java/lang/String" "value" "[B" .null := D56 (Or.inr (ww hw 34 rfl)) (ty := (.array .byte)) (by decide)
 refine GoW.sg (mkF m 51 (Sh4 1 x1c ((x1c &&& (255 : Int32)).toUInt32.toUInt16.toUInt32.toInt32) (((x1c.toUInt32 >>> ((8 : Int32) &&& 31).toUInt32).toInt32 &&& (255 : Int32)).toUInt32.toUInt16.toUInt32.toInt32) (((x1c.toUInt32 >>> ((16 : Int32) &&& 31).toUInt32).toInt32 &&& (255 : Int32)).toUInt32.toUInt16.toUInt32.toInt32)) [(.ref b56)]) (fun t k => st56 t k) ?_
 refine GoW.sg (mkF m 52 (Sh4 1 x1c ((x1c &&& (255 : Int32)).toUInt32.toUInt16.toUInt32.toInt32) (((x1c.toUInt32 >>> ((8 : Int32) &&& 31).toUInt32).toInt32 &&& (255 : Int32)).toUInt32.toUInt16.toUInt32.toInt32) (((x1c.toUInt32 >>> ((16 : Int32) &&& 31).toUInt32).toInt32 &&& (255 : Int32)).toUInt32.toUInt16.toUInt32.toInt32)) [(.ref b56), (.ref b56)]) (fun t k => XS.dup X56.here hx rfl (hb hby d1_51) rfl rfl k) ?_
 refine GoW.sg (mkF m 53 (Sh4 1 x1c ((x1c &&& (255 : Int32)).toUInt32.toUInt16.toUInt32.toInt32) (((x1c.toUInt32 >>> ((8 : Int32) &&& 31).toUInt32).toInt32 &&& (255 : Int32)).toUInt32.toUInt16.toUInt32.toInt32) (((x1c.toUInt32 >>> ((16 : Int32) &&& 31).toUInt32).toInt32 &&& (255 : Int32)).toUInt32.toUInt16.toUInt32.toInt32)) [(.int 1), (.ref b56), (.ref b56)]) (fun t k => XS.iconst X56.here hx rfl (hb hby d1_52) k) ?_
 obtain ⟨T57, h57, k57, X57, e57, E57, A57, st57⟩ := newP X56 hx hZ (ww hw 8 rfl) e56 (g := (mkF m 53 (Sh4 1 x1c ((x1c &&& (255 : Int32)).toUInt32.toUInt16.toUInt32.toInt32) (((x1c.toUInt32 >>> ((8 : Int32) &&& 31).toUInt32).toInt32 &&& (255 : Int32)).toUInt32.toUInt16.toUInt32.toInt32) (((x1c.toUInt32 >>> ((16 : Int32) &&& 31).toUInt32).toInt32 &&& (255 : Int32)).toUInt32.toUInt16.toUInt32.toInt32)) [(.int 1), (.ref b56), (.ref b56)])) rfl (hb hby d1_53) rfl (by decide) (cap := 1) (by decide) (by decide) (by decide) (by decide)
 obtain ⟨b57, g57⟩ : ∃ z, z = h56.size := ⟨_, rfl⟩
 rw [← g57] at A57 st57
 have g_b57 : n0 ≤ b57 := Nat.le_trans f56_3 (Nat.le_of_eq g57.symm)
 have sz_b57 : h0.size ≤ b57 := Nat.le_trans f56_2.1 (Nat.le_of_eq g57.symm)
 have ne_b56_b57 : b56 ≠ b57 := Nat.ne_of_lt (Nat.lt_of_lt_of_eq A56.lt g57.symm)
 have f57_4 := f56_1.ext E57
 have f57_5 := f56_2.ext E57
 have f57_6 := Nat.le_trans f56_3 E57.1
 have f57_7 := A56.ext E57
 have f57_8 := F56coder.ext E57
 have f57_9 := F56value.ext E57
 have V57 : Arv Z h57 b57 k57 .char (1 : Int32) [(.int (0 : Int32))] (.int (0 : Int32)) := (Arv.new A57 (by decide)).pad (pad_rep [] (.int (0 : Int32)) 1)
 refine GoW.sg (mkF m 55 (Sh4 1 x1c ((x1c &&& (255 : Int32)).toUInt32.toUInt16.toUInt32.toInt32) (((x1c.toUInt32 >>> ((8 : Int32) &&& 31).toUInt32).toInt32 &&& (255 : Int32)).toUInt32.toUInt16.toUInt32.toInt32) (((x1c.toUInt32 >>> ((16 : Int32) &&& 31).toUInt32).toInt32 &&& (255 : Int32)).toUInt32.toUInt16.toUInt32.toInt32)) [(.ref b57), (.ref b56), (.ref b56)]) (fun t k => st57 t k) ?_
 refine GoW.sg (mkF m 56 (Sh4 1 x1c ((x1c &&& (255 : Int32)).toUInt32.toUInt16.toUInt32.toInt32) (((x1c.toUInt32 >>> ((8 : Int32) &&& 31).toUInt32).toInt32 &&& (255 : Int32)).toUInt32.toUInt16.toUInt32.toInt32) (((x1c.toUInt32 >>> ((16 : Int32) &&& 31).toUInt32).toInt32 &&& (255 : Int32)).toUInt32.toUInt16.toUInt32.toInt32)) [(.ref b57), (.ref b57), (.ref b56), (.ref b56)]) (fun t k => XS.dup X57.here hx rfl (hb hby d1_55) rfl rfl k) ?_
 refine GoW.sg (mkF m 57 (Sh4 1 x1c ((x1c &&& (255 : Int32)).toUInt32.toUInt16.toUInt32.toInt32) (((x1c.toUInt32 >>> ((8 : Int32) &&& 31).toUInt32).toInt32 &&& (255 : Int32)).toUInt32.toUInt16.toUInt32.toInt32) (((x1c.toUInt32 >>> ((16 : Int32) &&& 31).toUInt32).toInt32 &&& (255 : Int32)).toUInt32.toUInt16.toUInt32.toInt32)) [(.int 0), (.ref b57), (.ref b57), (.ref b56), (.ref b56)]) (fun t k => XS.iconst X57.here hx rfl (hb hby d1_56) k) ?_
 refine GoW.sg (mkF m 58 (Sh4 1 x1c ((x1c &&& (255 : Int32)).toUInt32.toUInt16.toUInt32.toInt32) (((x1c.toUInt32 >>> ((8 : Int32) &&& 31).toUInt32).toInt32 &&& (255 : Int32)).toUInt32.toUInt16.toUInt32.toInt32) (((x1c.toUInt32 >>> ((16 : Int32) &&& 31).toUInt32).toInt32 &&& (255 : Int32)).toUInt32.toUInt16.toUInt32.toInt32)) [(.int (x1c &&& (255 : Int32)).toUInt32.toUInt16.toUInt32.toInt32), (.int 0), (.ref b57), (.ref b57), (.ref b56), (.ref b56)]) (fun t k => XS.iloadN X57.here hx rfl (hb hby d1_57) rfl k) ?_
 obtain ⟨cl58, Ar58, q58, Sz58, Nn58, Hh58, Gg58⟩ := V57
 have hin58 : ¬ ((0 : Int32) < 0 ∨ cl58.slots.size ≤ ((0 : Int32)).toNatClampNeg) := inb_of Sz58 ⟨by decide, by decide⟩
 obtain ⟨T58, h58, X58, e58, W58, st58⟩ := stC X57 hx hZ e57 Ar58 (j := (0 : Int32)) hin58 (g := (mkF m 58 (Sh4 1 x1c ((x1c &&& (255 : Int32)).toUInt32.toUInt16.toUInt32.toInt32) (((x1c.toUInt32 >>> ((8 : Int32) &&& 31).toUInt32).toInt32 &&& (255 : Int32)).toUInt32.toUInt16.toUInt32.toInt32) (((x1c.toUInt32 >>> ((16 : Int32) &&& 31).toUInt32).toInt32 &&& (255 : Int32)).toUInt32.toUInt16.toUInt32.toInt32)) [(.int (x1c &&& (255 : Int32)).toUInt32.toUInt16.toUInt32.toInt32), (.int 0), (.ref b57), (.ref b57), (.ref b56), (.ref b56)])) rfl rfl (hb hby d1_58)
 have f58_10 := f57_4.wr W58
 have f58_11 := f57_5.wr W58 (Or.inr sz_b57)
 have f58_12 := Nat.le_trans f57_6 (Nat.le_of_eq W58.size.symm)
 have f58_13 := f57_7.wr W58
 have f58_14 := f57_8.other W58 (Or.inl ne_b56_b57)
 have f58_15 := f57_9.other W58 (Or.inl ne_b56_b57)
 have V58 : Arv Z h58 b57 k57 .char (1 : Int32) [(.int (chA x1c))] (.int (0 : Int32)) := Arv.set Ar58 q58 Sz58 Nn58 Hh58 Gg58 (fits_nar_char _) W58 0 rfl (Nat.le_of_ble_eq_true rfl)
 have N58 := Fr.snoc X58 N0 g_b57
 refine GoW.sg (mkF m 59 (Sh4 1 x1c ((x1c &&& (255 : Int32)).toUInt32.toUInt16.toUInt32.toInt32) (((x1c.toUInt32 >>> ((8 : Int32) &&& 31).toUInt32).toInt32 &&& (255 : Int32)).toUInt32.toUInt16.toUInt32.toInt32) (((x1c.toUInt32 >>> ((16 : Int32) &&& 31).toUInt32).toInt32 &&& (255 : Int32)).toUInt32.toUInt16.toUInt32.toInt32)) [(.ref b57), (.ref b56), (.ref b56)]) (fun t k => st58 t k) ?_
 obtain ⟨_, _, ⟨T71, L71, k71, n71⟩, -, X71, ⟨Lc71, hQ71, l71, y71, z71⟩, st71⟩ := X58.specialBack hx (y := Y2) rfl hown (mvT hZ (ww hw 9 rfl)) (mvT hZ (ww hw 10 rfl)) (mvT hZ (ww hw 11 rfl)) (by decide) (backOf (W := 1) (rm2_5 l Z a0 hw [] b56 b57 k57 (chA x1c) x2c h58 n0 f58_12 f58_13 f58_14 f58_15 V58 f58_10 g_b56  u0 hiA ) hZ (ww hw 11 rfl) (ww hw 7 rfl) (by decide) (by decide)) (g := (mkF m 59 (Sh4 1 x1c ((x1c &&& (255 : Int32)).toUInt32.toUInt16.toUInt32.toInt32) (((x1c.toUInt32 >>> ((8 : Int32) &&& 31).toUInt32).toInt32 &&& (255 : Int32)).toUInt32.toUInt16.toUInt32.toInt32) (((x1c.toUInt32 >>> ((16 : Int32) &&& 31).toUInt32).toInt32 &&& (255 : Int32)).toUInt32.toUInt16.toUInt32.toInt32)) [(.ref b57), (.ref b56), (.ref b56)])) rfl (by rw [hml]; rfl) (Steps.refl _) (a := b56) (argsL := [(.ref b57)]) (rest := [(.ref b56)]) (lenOf pd_285bC29V rfl) rfl (by show 2 * 0 + _ ≤ _; exact Nat.le_of_eq rfl) (hb hby d1_59) (fun _ _ => ⟨rfl, e58, (by decide : 2 + 1 ≤ _), (by decide : 5 + 1 ≤ _)⟩)
 dsimp only [Pt.U, Pt.locs, Pt.cells, Pt.slots] at X71 l71 y71 z71 st71 hQ71
 subst l71 y71 z71
 obtain ⟨b71_e0, k71_ke0, rfl, N71q, K71, p71_0, p71_1, p71_2, p71_3, hz_b71_e0⟩ := hQ71
 have sz_b71_e0 : h0.size ≤ b71_e0 := Nat.le_trans f58_11.1 hz_b71_e0
 have N71 := Fr.app N58 N71q
 have f71_17 := f58_11.trans K71 (allS (Or.inr sz_b56) all0)
 refine GoW.sg (mkF m 62 (Sh4 1 x1c ((x1c &&& (255 : Int32)).toUInt32.toUInt16.toUInt32.toInt32) (((x1c.toUInt32 >>> ((8 : Int32) &&& 31).toUInt32).toInt32 &&& (255 : Int32)).toUInt32.toUInt16.toUInt32.toInt32) (((x1c.toUInt32 >>> ((16 : Int32) &&& 31).toUInt32).toInt32 &&& (255 : Int32)).toUInt32.toUInt16.toUInt32.toInt32)) [(.ref b56)]) (fun t k => st71.trans k) ?_
 refine GoW.retA X71 hx Bd.returns rfl rfl rfl (hb hby d1_62) Bd.notSynchronized ?_ (by decide) (by decide)
 exact ⟨b56, b71_e0, k71_ke0, rfl, N71, f71_17, p71_0, p71_1, p71_2, p71_3, sz_b56, sz_b71_e0⟩
def Q9_7 (Z : State) (a1c : Addr) (h0 : Heap) (n0 : Nat) (v : Option Value) (h : Heap) (L : List Loc) : Prop := v = none ∧ Fr n0 L ∧ (h = h0)
theorem ef9_rm9_7 (m : MethodId) (a1c : Addr) : entryFrame m #[(.ref a1c)] 1 = (mkF m 0 #[.val (.ref a1c)] []) := by first | (simp [entryFrame, mkF, argsToLocals, Value.category, maxLocals]; done) | rfl
set_option maxRecDepth 65536 in
set_option maxHeartbeats 40000000 in
theorem rm9_7 (l : Launch) (Z : State) (a0 : Array Value) (hw : ∀ d ∈ tables_1, d.before a0 Z = true) (ws : List Jvm.Cond) (a1c : Addr)  (h0 : Heap) (n0 : Nat)       :
    MetFree l Y9 (head1 (Jvm.Cond.code Y9 jdk_30_method_1_code 1 none :: ws) ({ frames := 1, cells := 0, slots := 0, locals := 12 } : Room)) (fun a U => a = #[(.ref a1c)] ∧ Z.Warmed39 U.vm ∧ U.heap = h0) (fun _ _ _ _ _ => True) (fun _ U o U' => ∃ v L, o = .returned v ∧ (Q9_7 Z a1c h0 n0) v U'.heap L ∧ FrameEnd U o U' L 0 0) := by
 refine MetFree.of_bodySF (plainFor_of_name pn_java_lang_Record) hisR ?_
 intro p e s m args below meth c s₁ Bd hml0 hP hK
 obtain ⟨rfl, hZ, hh⟩ := hP
 have hx := Bd.exec
 have hby := Bd.bytes
 have hml : c.maxLocals = 1 := hml0
 have hown : s.vm.findClass "java/lang/Record" = some m.cls := findClass_of_methodNamed Bd.named
 have hnm := (name_of_methodNamed Bd.named Bd.method).1
 have X0 : Stand p l e ({ frames := 1, cells := 0, slots := 0, locals := 12 } : Room) s m #[(.ref a1c)] below meth c s₁ [] 0 0 := Stand.of_body Bd
 have e0 : s₁.heap = h0 := by rw [← hh, Bd.state]; rfl
 have N0 := Fr.nil n0
 refine GoW.mk ?_
 refine GoW.st (fun t k => castTop (ef9_rm9_7 m a1c) k) ?_
 show GoW p e below s (Q9_7 Z a1c h0 n0) 0 0 (s₁.setTop (mkF m 0 #[.val (.ref a1c)] []))
 refine GoW.sg (mkF m 1 #[.val (.ref a1c)] [(.ref a1c)]) (fun t k => XS.aloadN X0.here hx rfl (hb hby d9_0) rfl rfl k) ?_
 obtain ⟨T77, X77, e77, st77⟩ := initO X0 hx hZ hown (ww hw 46 rfl) (ww hw 17 rfl) (ww hw 18 rfl) e0 (g := (mkF m 1 #[.val (.ref a1c)] [(.ref a1c)])) rfl (by rw [hml]; rfl) rfl (hb hby d9_1) (by decide) (W := 0) (by show 2 * 0 + _ ≤ _; exact Nat.le_of_eq rfl) (by decide)
 refine GoW.sg (mkF m 4 #[.val (.ref a1c)] []) (fun t k => st77 t k) ?_
 refine GoW.retV X77 hx Bd.returns (hb hby d9_4) Bd.notSynchronized ?_ (by decide) (by decide)
 rw [e77]
 exact ⟨rfl, N0, rfl⟩
def Q8_8 (Z : State) (a1c : Addr) (a2c : Addr) (a3c : Addr) (h0 : Heap) (n0 : Nat) (v : Option Value) (h : Heap) (L : List Loc) : Prop := v = none ∧ Fr n0 L ∧ (Keep h0 h [a1c]) ∧ (Exa Z h a1c "com/example/relaystack/relaystack/CommandLine$Option") ∧ (Fld Z h a1c "com/example/relaystack/relaystack/CommandLine$Option" "given" "Ljava/lang/String;" (.ref a3c)) ∧ (Fld Z h a1c "com/example/relaystack/relaystack/CommandLine$Option" "name" "Ljava/lang/String;" (.ref a2c))
theorem ef8_rm8_8 (m : MethodId) (a1c : Addr) (a2c : Addr) (a3c : Addr) : entryFrame m #[(.ref a1c), (.ref a2c), (.ref a3c)] 3 = (mkF m 0 #[.val (.ref a1c), .val (.ref a2c), .val (.ref a3c)] []) := by first | (simp [entryFrame, mkF, argsToLocals, Value.category, maxLocals]; done) | rfl
set_option maxRecDepth 65536 in
set_option maxHeartbeats 40000000 in
theorem rm8_8 (l : Launch) (Z : State) (a0 : Array Value) (hw : ∀ d ∈ tables_1, d.before a0 Z = true) (ws : List Jvm.Cond) (a1c : Addr) (a2c : Addr) (a3c : Addr)  (h0 : Heap) (n0 : Nat) (P0 : Exa Z h0 a1c "com/example/relaystack/relaystack/CommandLine$Option") (P1 : Fld Z h0 a1c "com/example/relaystack/relaystack/CommandLine$Option" "given" "Ljava/lang/String;" .null) (P2 : Fld Z h0 a1c "com/example/relaystack/relaystack/CommandLine$Option" "name" "Ljava/lang/String;" .null) (g_a1c : n0 ≤ a1c)     :
    MetFree l Y8 (head1 (Jvm.Cond.code Y8 prog_8_method_1_code 3 none :: ws) ({ frames := 2, cells := 0, slots := 0, locals := 24 } : Room)) (fun a U => a = #[(.ref a1c), (.ref a2c), (.ref a3c)] ∧ Z.Warmed39 U.vm ∧ U.heap = h0) (fun _ _ _ _ _ => True) (fun _ U o U' => ∃ v L, o = .returned v ∧ (Q8_8 Z a1c a2c a3c h0 n0) v U'.heap L ∧ FrameEnd U o U' L 0 0) := by
 refine MetFree.of_bodySF (plainFor_of_name pn_com_example_relaystack_relaystack_CommandLine_Option) hisR ?_
 intro p e s m args below meth c s₁ Bd hml0 hP hK
 obtain ⟨rfl, hZ, hh⟩ := hP
 have hx := Bd.exec
 have hby := Bd.bytes
 have hml : c.maxLocals = 3 := hml0
 have hown : s.vm.findClass "com/example/relaystack/relaystack/CommandLine$Option" = some m.cls := findClass_of_methodNamed Bd.named
 have hnm := (name_of_methodNamed Bd.named Bd.method).1
 have X0 : Stand p l e ({ frames := 2, cells := 0, slots := 0, locals := 24 } : Room) s m #[(.ref a1c), (.ref a2c), (.ref a3c)] below meth c s₁ [] 0 0 := Stand.of_body Bd
 have e0 : s₁.heap = h0 := by rw [← hh, Bd.state]; rfl
 have N0 := Fr.nil n0
 refine GoW.mk ?_
 refine GoW.st (fun t k => castTop (ef8_rm8_8 m a1c a2c a3c) k) ?_
 show GoW p e below s (Q8_8 Z a1c a2c a3c h0 n0) 0 0 (s₁.setTop (mkF m 0 (Sh17 a1c a2c a3c) []))
 refine GoW.sg (mkF m 1 (Sh17 a1c a2c a3c) [(.ref a1c)]) (fun t k => XS.aloadN X0.here hx rfl (hb hby d8_0) rfl rfl k) ?_
 obtain ⟨_, _, ⟨T82, L82, k82, n82⟩, -, X82, ⟨Lc82, hQ82, l82, y82, z82⟩, st82⟩ := X0.specialBack hx (y := Y9) rfl hown (mvT hZ (ww hw 41 rfl)) (mvT hZ (ww hw 42 rfl)) (mvT hZ (ww hw 45 rfl)) (by decide) (backOf (W := 0) (rm9_7 l Z a0 hw [] a1c  h0 n0      ) hZ (ww hw 45 rfl) (ww hw 44 rfl) (by decide) (by decide)) (g := (mkF m 1 (Sh17 a1c a2c a3c) [(.ref a1c)])) rfl (by rw [hml]; rfl) (Steps.refl _) (a := a1c) (argsL := []) (rest := []) (lenOf pd_2829V rfl) rfl (by show 2 * 0 + _ ≤ _; exact Nat.le_of_eq rfl) (hb hby d8_1) (fun _ _ => ⟨rfl, e0, (by decide : 0 + 0 ≤ _), (by decide : 0 + 0 ≤ _)⟩)
 dsimp only [Pt.U, Pt.locs, Pt.cells, Pt.slots] at X82 l82 y82 z82 st82 hQ82
 subst l82 y82 z82
 obtain ⟨rfl, N82q, e82⟩ := hQ82
 have N82 := Fr.app N0 N82q
 refine GoW.sg (mkF m 4 (Sh17 a1c a2c a3c) []) (fun t k => st82.trans k) ?_
 refine GoW.sg (mkF m 5 (Sh17 a1c a2c a3c) [(.ref a1c)]) (fun t k => XS.aloadN X82.here hx rfl (hb hby d8_4) rfl rfl k) ?_
 refine GoW.sg (mkF m 6 (Sh17 a1c a2c a3c) [(.ref a2c), (.ref a1c)]) (fun t k => XS.aloadN X82.here hx rfl (hb hby d8_5) rfl rfl k) ?_
 obtain ⟨T83, h83, X83, e83, W83, st83⟩ := putF X82 hx hZ hown (host := "") (Or.inl (ww hw 47 rfl)) Via.refl e82 P2 P0 (Or.inr ⟨(ww hw 48 rfl), rfl, hnm⟩) (ww hw 36 rfl) (ty := (.object "java/lang/String")) (by decide) rfl rfl (g := (mkF m 6 (Sh17 a1c a2c a3c) [(.ref a2c), (.ref a1c)])) rfl rfl (hb hby d8_6)
 have N83 := Fr.snoc X83 N82 g_a1c
 have f83_1 := P0.wr W83
 have f83_2 := P1.other W83 (Or.inr (slot_ne (t := (.object "java/lang/String")) (t' := (.object "java/lang/String")) (Or.inr (ww hw 50 rfl)) (Or.inr (ww hw 48 rfl)) (by decide) (by decide) (by decide)))
 have f83_3 := (Keep.refl h0 [a1c]).wr W83 (Or.inl (List.mem_of_getElem? (i := 0) rfl))
 have F83name : Fld Z h83 a1c "com/example/relaystack/relaystack/CommandLine$Option" "name" "Ljava/lang/String;" (.ref a2c) := P2.same W83
 refine GoW.sg (mkF m 9 (Sh17 a1c a2c a3c) []) (fun t k => st83 t k) ?_
 refine GoW.sg (mkF m 10 (Sh17 a1c a2c a3c) [(.ref a1c)]) (fun t k => XS.aloadN X83.here hx rfl (hb hby d8_9) rfl rfl k) ?_
 refine GoW.sg (mkF m 11 (Sh17 a1c a2c a3c) [(.ref a3c), (.ref a1c)]) (fun t k => XS.aloadN X83.here hx rfl (hb hby d8_10) rfl rfl k) ?_
 obtain ⟨T84, h84, X84, e84, W84, st84⟩ := putF X83 hx hZ hown (host := "") (Or.inl (ww hw 49 rfl)) Via.refl e83 f83_2 f83_1 (Or.inr ⟨(ww hw 50 rfl), rfl, hnm⟩) (ww hw 36 rfl) (ty := (.object "java/lang/String")) (by decide) rfl rfl (g := (mkF m 11 (Sh17 a1c a2c a3c) [(.ref a3c), (.ref a1c)])) rfl rfl (hb hby d8_11)
 have N84 := Fr.snoc X84 N83 g_a1c
 have f84_4 := f83_1.wr W84
 have f84_5 := F83name.other W84 (Or.inr (slot_ne (t := (.object "java/lang/String")) (t' := (.object "java/lang/String")) (Or.inr (ww hw 48 rfl)) (Or.inr (ww hw 50 rfl)) (by decide) (by decide) (by decide)))
 have f84_6 := f83_3.wr W84 (Or.inl (List.mem_of_getElem? (i := 0) rfl))
 have F84given : Fld Z h84 a1c "com/example/relaystack/relaystack/CommandLine$Option" "given" "Ljava/lang/String;" (.ref a3c) := f83_2.same W84
 refine GoW.sg (mkF m 14 (Sh17 a1c a2c a3c) []) (fun t k => st84 t k) ?_
 refine GoW.retV X84 hx Bd.returns (hb hby d8_14) Bd.notSynchronized ?_ (by decide) (by decide)
 rw [e84]
 exact ⟨rfl, N84, f84_6, f84_4, F84given, f84_5⟩
def Q11_9 (Z : State) (a1c : Addr) (a2c : Addr) (ka2c : ClassId) (x1c : Int32) (h0 : Heap) (n0 : Nat) (v : Option Value) (h : Heap) (L : List Loc) : Prop := v = some (.int (0 : Int32)) ∧ Fr n0 L ∧ (h = h0)
theorem ef11_rm11_9 (m : MethodId) (a1c : Addr) : entryFrame m #[(.ref a1c)] 1 = (mkF m 0 #[.val (.ref a1c)] []) := by first | (simp [entryFrame, mkF, argsToLocals, Value.category, maxLocals]; done) | rfl
set_option maxRecDepth 65536 in
set_option maxHeartbeats 40000000 in
theorem rm11_9 (l : Launch) (Z : State) (a0 : Array Value) (hw : ∀ d ∈ tables_1, d.before a0 Z = true) (ws : List Jvm.Cond) (a1c : Addr) (a2c : Addr) (ka2c : ClassId) (x1c : Int32) (h0 : Heap) (n0 : Nat) (P0 : Fld Z h0 a1c "java/lang/String" "value" "[B" (.ref a2c)) (P1 : Arv Z h0 a2c ka2c .byte (1 : Int32) [(.int x1c)] (.int (0 : Int32)))      :
    MetFree l Y11 (head1 (Jvm.Cond.code Y11 jdk_42_method_55_code 1 (some .boolean) :: ws) ({ frames := 0, cells := 0, slots := 0, locals := 0 } : Room)) (fun a U => a = #[(.ref a1c)] ∧ Z.Warmed39 U.vm ∧ U.heap = h0) (fun _ _ _ _ _ => True) (fun _ U o U' => ∃ v L, o = .returned v ∧ (Q11_9 Z a1c a2c ka2c x1c h0 n0) v U'.heap L ∧ FrameEnd U o U' L 0 0) := by
 refine MetFree.of_bodySF (plainFor_of_name pn_java_lang_String) hisR ?_
 intro p e s m args below meth c s₁ Bd hml0 hP hK
 obtain ⟨rfl, hZ, hh⟩ := hP
 have hx := Bd.exec
 have hby := Bd.bytes
 have hml : c.maxLocals = 1 := hml0
 have hown : s.vm.findClass "java/lang/String" = some m.cls := findClass_of_methodNamed Bd.named
 have hnm := (name_of_methodNamed Bd.named Bd.method).1
 have X0 : Stand p l e ({ frames := 0, cells := 0, slots := 0, locals := 0 } : Room) s m #[(.ref a1c)] below meth c s₁ [] 0 0 := Stand.of_body Bd
 have e0 : s₁.heap = h0 := by rw [← hh, Bd.state]; rfl
 have N0 := Fr.nil n0
 refine GoW.mk ?_
 refine GoW.st (fun t k => castTop (ef11_rm11_9 m a1c) k) ?_
 show GoW p e below s (Q11_9 Z a1c a2c ka2c x1c h0 n0) 0 0 (s₁.setTop (mkF m 0 #[.val (.ref a1c)] []))
 refine GoW.sg (mkF m 1 #[.val (.ref a1c)] [(.ref a1c)]) (fun t k => XS.aloadN X0.here hx rfl (hb hby d11_0) rfl rfl k) ?_
 obtain ⟨T90, X90, e90, st90⟩ := getF X0 hx hZ hown (host := "") (Or.inl (ww hw 33 rfl)) Via.refl e0 P0 (g := (mkF m 1 #[.val (.ref a1c)] [(.ref a1c)])) rfl rfl (hb hby d11_1)
 refine GoW.sg (mkF m 4 #[.val (.ref a1c)] [(.ref a2c)]) (fun t k => st90 t k) ?_
 obtain ⟨cl91, Ar91, q91, Sz91, Nn91, Hh91, Gg91⟩ := id P1
 have st91 := X90.arraylength hx (hq_ e90 Ar91.1) (State.isArrayOf_alike hZ.alike Ar91.2.1) (g := (mkF m 4 #[.val (.ref a1c)] [(.ref a2c)])) rfl rfl (hb hby d11_4)
 rw [len_of Sz91 Nn91] at st91
 refine GoW.sg (mkF m 5 #[.val (.ref a1c)] [(.int 1)]) (fun t k => st91 t k) ?_
 refine GoW.sg (mkF m 12 #[.val (.ref a1c)] []) (fun t k => XS.ifYes X90.here hx rfl (pc0 := 5) (pc' := 12) rfl (hb hby d11_5) rfl (by decide) (by decide) (by decide) k) ?_
 refine GoW.sg (mkF m 13 #[.val (.ref a1c)] [(.int 0)]) (fun t k => XS.iconst X90.here hx rfl (hb hby d11_12) k) ?_
 refine GoW.retN X90 hx (t := .boolean) Bd.returns (by simp) (hb hby d11_13) Bd.notSynchronized ?_ (by decide) (by decide)
 rw [e90]
 exact ⟨rfl, N0, rfl⟩
def Q10_10 (Z : State) (a1c : Addr) (a2c : Addr) (a3c : Addr) (ka3c : ClassId) (x1c : Int32) (h0 : Heap) (n0 : Nat) (v : Option Value) (h : Heap) (L : List Loc) : Prop := v = some (.ref a2c) ∧ Fr n0 L ∧ (h = h0)
theorem ef10_rm10_10 (m : MethodId) (a1c : Addr) : entryFrame m #[(.ref a1c)] 1 = (mkF m 0 #[.val (.ref a1c)] []) := by first | (simp [entryFrame, mkF, argsToLocals, Value.category, maxLocals]; done) | rfl
set_option maxRecDepth 65536 in
set_option maxHeartbeats 40000000 in
theorem rm10_10 (l : Launch) (Z : State) (a0 : Array Value) (hw : ∀ d ∈ tables_1, d.before a0 Z = true) (ws : List Jvm.Cond) (a1c : Addr) (a2c : Addr) (a3c : Addr) (ka3c : ClassId) (x1c : Int32) (h0 : Heap) (n0 : Nat) (P0 : Exa Z h0 a2c "java/lang/String") (P1 : Fld Z h0 a1c "com/example/relaystack/relaystack/CommandLine$Option" "given" "Ljava/lang/String;" (.ref a2c)) (P2 : Fld Z h0 a2c "java/lang/String" "value" "[B" (.ref a3c)) (P3 : Arv Z h0 a3c ka3c .byte (1 : Int32) [(.int x1c)] (.int (0 : Int32)))      :
    MetFree l Y10 (head1 (Jvm.Cond.code Y10 prog_8_method_2_code 1 (some (.object "java/lang/String")) :: ws) ({ frames := 1, cells := 0, slots := 0, locals := 12 } : Room)) (fun a U => a = #[(.ref a1c)] ∧ Z.Warmed39 U.vm ∧ U.heap = h0) (fun _ _ _ _ _ => True) (fun _ U o U' => ∃ v L, o = .returned v ∧ (Q10_10 Z a1c a2c a3c ka3c x1c h0 n0) v U'.heap L ∧ FrameEnd U o U' L 0 0) := by
 refine MetFree.of_bodySF (plainFor_of_name pn_com_example_relaystack_relaystack_CommandLine_Option) hisR ?_
 intro p e s m args below meth c s₁ Bd hml0 hP hK
 obtain ⟨rfl, hZ, hh⟩ := hP
 have hx := Bd.exec
 have hby := Bd.bytes
 have hml : c.maxLocals = 1 := hml0
 have hown : s.vm.findClass "com/example/relaystack/relaystack/CommandLine$Option" = some m.cls := findClass_of_methodNamed Bd.named
 have hnm := (name_of_methodNamed Bd.named Bd.method).1
 have X0 : Stand p l e ({ frames := 1, cells := 0, slots := 0, locals := 12 } : Room) s m #[(.ref a1c)] below meth c s₁ [] 0 0 := Stand.of_body Bd
 have e0 : s₁.heap = h0 := by rw [← hh, Bd.state]; rfl
 have N0 := Fr.nil n0
 refine GoW.mk ?_
 refine GoW.st (fun t k => castTop (ef10_rm10_10 m a1c) k) ?_
 show GoW p e below s (Q10_10 Z a1c a2c a3c ka3c x1c h0 n0) 0 0 (s₁.setTop (mkF m 0 #[.val (.ref a1c)] []))
 refine GoW.sg (mkF m 1 #[.val (.ref a1c)] [(.ref a1c)]) (fun t k => XS.aloadN X0.here hx rfl (hb hby d10_0) rfl rfl k) ?_
 obtain ⟨T94, X94, e94, st94⟩ := getF X0 hx hZ hown (host := "") (Or.inl (ww hw 49 rfl)) Via.refl e0 P1 (g := (mkF m 1 #[.val (.ref a1c)] [(.ref a1c)])) rfl rfl (hb hby d10_1)
 refine GoW.sg (mkF m 4 #[.val (.ref a1c)] [(.ref a2c)]) (fun t k => st94 t k) ?_
 refine GoW.sg (mkF m 7 #[.val (.ref a1c)] []) (fun t k => XS.ifnullNo X94.here hx rfl (hb hby d10_4) rfl k) ?_
 refine GoW.sg (mkF m 8 #[.val (.ref a1c)] [(.ref a1c)]) (fun t k => XS.aloadN X94.here hx rfl (hb hby d10_7) rfl rfl k) ?_
 obtain ⟨T95, X95, e95, st95⟩ := getF X94 hx hZ hown (host := "") (Or.inl (ww hw 49 rfl)) Via.refl e94 P1 (g := (mkF m 8 #[.val (.ref a1c)] [(.ref a1c)])) rfl rfl (hb hby d10_8)
 refine GoW.sg (mkF m 11 #[.val (.ref a1c)] [(.ref a2c)]) (fun t k => st95 t k) ?_
 obtain ⟨cq98, kq98, q98a, q98b, q98c⟩ := isOf hZ e95 P0
 obtain ⟨_, _, ⟨T98, L98, k98, n98⟩, -, X98, ⟨Lc98, hQ98, l98, y98, z98⟩, st98⟩ := X95.virtualBack hx (y := Y11) (z := Y11) hown (mvT hZ (ww hw 56 rfl)) (mvT hZ (ww hw 57 rfl)) (notFace_of_selects (args := #[]) (mvT hZ (ww hw 59 rfl))) (mvT hZ (ww hw 59 rfl)) (mvT hZ (ww hw 58 rfl)) (by decide) (backOf (W := 0) (rm11_9 l Z a0 hw [] a2c a3c ka3c x1c h0 n0  P2 P3    ) hZ (ww hw 60 rfl) (ww hw 7 rfl) (by decide) (by decide)) q98a q98c (g := (mkF m 11 #[.val (.ref a1c)] [(.ref a2c)])) rfl (by rw [hml]; rfl) (Steps.refl _) (argsL := []) (rest := []) (lenOf pd_2829Z rfl) rfl (by show 2 * 0 + _ ≤ _; exact Nat.le_of_eq rfl) (hb hby d10_11) (fun _ _ => ⟨rfl, e95, (by decide : 0 + 0 ≤ _), (by decide : 0 + 0 ≤ _)⟩)
 dsimp only [Pt.U, Pt.locs, Pt.cells, Pt.slots] at X98 l98 y98 z98 st98 hQ98
 subst l98 y98 z98
 obtain ⟨rfl, N98q, e98⟩ := hQ98
 have N98 := Fr.app N0 N98q
 refine GoW.sg (mkF m 14 #[.val (.ref a1c)] [(.int 0)]) (fun t k => st98.trans k) ?_
 refine GoW.sg (mkF m 34 #[.val (.ref a1c)] []) (fun t k => XS.ifYes X98.here hx rfl (pc0 := 14) (pc' := 34) rfl (hb hby d10_14) rfl (by decide) (by decide) (by decide) k) ?_
 refine GoW.sg (mkF m 35 #[.val (.ref a1c)] [(.ref a1c)]) (fun t k => XS.aloadN X98.here hx rfl (hb hby d10_34) rfl rfl k) ?_
 obtain ⟨T99, X99, e99, st99⟩ := getF X98 hx hZ hown (host := "") (Or.inl (ww hw 49 rfl)) Via.refl e98 P1 (g := (mkF m 35 #[.val (.ref a1c)] [(.ref a1c)])) rfl rfl (hb hby d10_35)
 refine GoW.sg (mkF m 38 #[.val (.ref a1c)] [(.ref a2c)]) (fun t k => st99 t k) ?_
 refine GoW.retA X99 hx Bd.returns rfl rfl rfl (hb hby d10_38) Bd.notSynchronized ?_ (by decide) (by decide)
 rw [e99]
 exact ⟨rfl, N98, rfl⟩
def Q13_11 (Z : State) (a1c : Addr) (x1c : Int32) (h0 : Heap) (n0 : Nat) (v : Option Value) (h : Heap) (L : List Loc) : Prop := v = some (.int (0 : Int32)) ∧ Fr n0 L ∧ (h = h0)
theorem ef13_rm13_11 (m : MethodId) (a1c : Addr) : entryFrame m #[(.ref a1c)] 1 = (mkF m 0 #[.val (.ref a1c)] []) := by first | (simp [entryFrame, mkF, argsToLocals, Value.category, maxLocals]; done) | rfl
set_option maxRecDepth 65536 in
set_option maxHeartbeats 40000000 in
theorem rm13_11 (l : Launch) (Z : State) (a0 : Array Value) (hw : ∀ d ∈ tables_1, d.before a0 Z = true) (ws : List Jvm.Cond) (a1c : Addr) (x1c : Int32) (h0 : Heap) (n0 : Nat) (P0 : Fld Z h0 a1c "java/lang/String" "coder" "B" (.int (0 : Int32))) (P1 : Sta Z h0 "java/lang/String" "COMPACT_STRINGS" "Z" (.int x1c))   (u0 : ¬ (x1c = (0 : Int32)))   :
    MetFree l Y13 (head1 (Jvm.Cond.code Y13 jdk_42_method_152_code 1 (some .byte) :: ws) ({ frames := 0, cells := 0, slots := 0, locals := 0 } : Room)) (fun a U => a = #[(.ref a1c)] ∧ Z.Warmed39 U.vm ∧ U.heap = h0) (fun _ _ _ _ _ => True) (fun _ U o U' => ∃ v L, o = .returned v ∧ (Q13_11 Z a1c x1c h0 n0) v U'.heap L ∧ FrameEnd U o U' L 0 0) := by
 refine MetFree.of_bodySF (plainFor_of_name pn_java_lang_String) hisR ?_
 intro p e s m args below meth c s₁ Bd hml0 hP hK
 obtain ⟨rfl, hZ, hh⟩ := hP
 have hx := Bd.exec
 have hby := Bd.bytes
 have hml : c.maxLocals = 1 := hml0
 have hown : s.vm.findClass "java/lang/String" = some m.cls := findClass_of_methodNamed Bd.named
 have hnm := (name_of_methodNamed Bd.named Bd.method).1
 have X0 : Stand p l e ({ frames := 0, cells := 0, slots := 0, locals := 0 } : Room) s m #[(.ref a1c)] below meth c s₁ [] 0 0 := Stand.of_body Bd
 have e0 : s₁.heap = h0 := by rw [← hh, Bd.state]; rfl
 have N0 := Fr.nil n0
 refine GoW.mk ?_
 refine GoW.st (fun t k => castTop (ef13_rm13_11 m a1c) k) ?_
 show GoW p e below s (Q13_11 Z a1c x1c h0 n0) 0 0 (s₁.setTop (mkF m 0 #[.val (.ref a1c)] []))
 obtain ⟨T105, X105, e105, st105⟩ := getS (host := "") X0 hx hZ hown (ww hw 19 rfl) Via.refl e0 P1 (g := (mkF m 0 #[.val (.ref a1c)] [])) rfl (hb hby d13_0)
 refine GoW.sg (mkF m 3 #[.val (.ref a1c)] [(.int x1c)]) (fun t k => st105 t k) ?_
 refine GoW.sg (mkF m 6 #[.val (.ref a1c)] []) (fun t k => XS.ifNo X105.here hx rfl (hb hby d13_3) rfl ((if0 _ _).trans (feq u0).1) k) ?_
 refine GoW.sg (mkF m 7 #[.val (.ref a1c)] [(.ref a1c)]) (fun t k => XS.aloadN X105.here hx rfl (hb hby d13_6) rfl rfl k) ?_
 obtain ⟨T106, X106, e106, st106⟩ := getF X105 hx hZ hown (host := "") (Or.inl (ww hw 31 rfl)) Via.refl e105 P0 (g := (mkF m 7 #[.val (.ref a1c)] [(.ref a1c)])) rfl rfl (hb hby d13_7)
 refine GoW.sg (mkF m 10 #[.val (.ref a1c)] [(.int 0)]) (fun t k => st106 t k) ?_
 refine GoW.sg (mkF m 14 #[.val (.ref a1c)] [(.int 0)]) (fun t k => XS.goto X106.here hx rfl (pc0 := 10) (pc' := 14) rfl (hb hby d13_10) (by decide) (by decide) k) ?_
 refine GoW.retN X106 hx (t := .byte) Bd.returns (by simp) (hb hby d13_14) Bd.notSynchronized ?_ (by decide) (by decide)
 rw [e106]
 exact ⟨rfl, N0, rfl⟩
def Q12_12 (Z : State) (a1c : Addr) (a2c : Addr) (ka2c : ClassId) (x1c : Int32) (x2c : Int32) (h0 : Heap) (n0 : Nat) (v : Option Value) (h : Heap) (L : List Loc) : Prop := v = some (.int (1 : Int32)) ∧ Fr n0 L ∧ (h = h0)
theorem ef12_rm12_12 (m : MethodId) (a1c : Addr) : entryFrame m #[(.ref a1c)] 1 = (mkF m 0 #[.val (.ref a1c)] []) := by first | (simp [entryFrame, mkF, argsToLocals, Value.category, maxLocals]; done) | rfl
set_option maxRecDepth 65536 in
set_option maxHeartbeats 40000000 in
theorem rm12_12 (l : Launch) (Z : State) (a0 : Array Value) (hw : ∀ d ∈ tables_1, d.before a0 Z = true) (ws : List Jvm.Cond) (a1c : Addr) (a2c : Addr) (ka2c : ClassId) (x1c : Int32) (x2c : Int32) (h0 : Heap) (n0 : Nat) (P0 : Exa Z h0 a1c "java/lang/String") (P1 : Fld Z h0 a1c "java/lang/String" "coder" "B" (.int (0 : Int32))) (P2 : Fld Z h0 a1c "java/lang/String" "value" "[B" (.ref a2c)) (P3 : Arv Z h0 a2c ka2c .byte (1 : Int32) [(.int x1c)] (.int (0 : Int32))) (P4 : Sta Z h0 "java/lang/String" "COMPACT_STRINGS" "Z" (.int x2c))   (u0 : ¬ (x2c = (0 : Int32)))   :
    MetFree l Y12 (head1 (Jvm.Cond.code Y12 jdk_42_method_54_code 1 (some .int) :: ws) ({ frames := 1, cells := 0, slots := 0, locals := 13 } : Room)) (fun a U => a = #[(.ref a1c)] ∧ Z.Warmed39 U.vm ∧ U.heap = h0) (fun _ _ _ _ _ => True) (fun _ U o U' => ∃ v L, o = .returned v ∧ (Q12_12 Z a1c a2c ka2c x1c x2c h0 n0) v U'.heap L ∧ FrameEnd U o U' L 0 0) := by
 refine MetFree.of_bodySF (plainFor_of_name pn_java_lang_String) hisR ?_
 intro p e s m args below meth c s₁ Bd hml0 hP hK
 obtain ⟨rfl, hZ, hh⟩ := hP
 have hx := Bd.exec
 have hby := Bd.bytes
 have hml : c.maxLocals = 1 := hml0
 have hown : s.vm.findClass "java/lang/String" = some m.cls := findClass_of_methodNamed Bd.named
 have hnm := (name_of_methodNamed Bd.named Bd.method).1
 have X0 : Stand p l e ({ frames := 1, cells := 0, slots := 0, locals := 13 } : Room) s m #[(.ref a1c)] below meth c s₁ [] 0 0 := Stand.of_body Bd
 have e0 : s₁.heap = h0 := by rw [← hh, Bd.state]; rfl
 have N0 := Fr.nil n0
 refine GoW.mk ?_
 refine GoW.st (fun t k => castTop (ef12_rm12_12 m a1c) k) ?_
 show GoW p e below s (Q12_12 Z a1c a2c ka2c x1c x2c h0 n0) 0 0 (s₁.setTop (mkF m 0 #[.val (.ref a1c)] []))
 refine GoW.sg (mkF m 1 #[.val (.ref a1c)] [(.ref a1c)]) (fun t k => XS.aloadN X0.here hx rfl (hb hby d12_0) rfl rfl k) ?_
 obtain ⟨T108, X108, e108, st108⟩ := getF X0 hx hZ hown (host := "") (Or.inl (ww hw 33 rfl)) Via.refl e0 P2 (g := (mkF m 1 #[.val (.ref a1c)] [(.ref a1c)])) rfl rfl (hb hby d12_1)
 refine GoW.sg (mkF m 4 #[.val (.ref a1c)] [(.ref a2c)]) (fun t k => st108 t k) ?_
 obtain ⟨cl109, Ar109, q109, Sz109, Nn109, Hh109, Gg109⟩ := id P3
 have st109 := X108.arraylength hx (hq_ e108 Ar109.1) (State.isArrayOf_alike hZ.alike Ar109.2.1) (g := (mkF m 4 #[.val (.ref a1c)] [(.ref a2c)])) rfl rfl (hb hby d12_4)
 rw [len_of Sz109 Nn109] at st109
 refine GoW.sg (mkF m 5 #[.val (.ref a1c)] [(.int 1)]) (fun t k => st109 t k) ?_
 refine GoW.sg (mkF m 6 #[.val (.ref a1c)] [(.ref a1c), (.int 1)]) (fun t k => XS.aloadN X108.here hx rfl (hb hby d12_5) rfl rfl k) ?_
 obtain ⟨cq112, kq112, q112a, q112b, q112c⟩ := isOf hZ e108 P0
 obtain ⟨_, _, ⟨T112, L112, k112, n112⟩, -, X112, ⟨Lc112, hQ112, l112, y112, z112⟩, st112⟩ := X108.virtualBack hx (y := Y13) (z := Y13) hown (mvT hZ (ww hw 66 rfl)) (mvT hZ (ww hw 67 rfl)) (notFace_of_selects (args := #[]) (mvT hZ (ww hw 69 rfl))) (mvT hZ (ww hw 69 rfl)) (mvT hZ (ww hw 68 rfl)) (by decide) (backOf (W := 1) (rm13_11 l Z a0 hw [] a1c x2c h0 n0  P1 P4   u0 ) hZ (ww hw 70 rfl) (ww hw 7 rfl) (by decide) (by decide)) q112a q112c (g := (mkF m 6 #[.val (.ref a1c)] [(.ref a1c), (.int 1)])) rfl (by rw [hml]; rfl) (Steps.refl _) (argsL := []) (rest := [(.int (1 : Int32))]) (lenOf pd_2829B rfl) rfl (by show 2 * 0 + _ ≤ _; exact Nat.le_of_eq rfl) (hb hby d12_6) (fun _ _ => ⟨rfl, e108, (by decide : 0 + 0 ≤ _), (by decide : 0 + 0 ≤ _)⟩)
 dsimp only [Pt.U, Pt.locs, Pt.cells, Pt.slots] at X112 l112 y112 z112 st112 hQ112
 subst l112 y112 z112
 obtain ⟨rfl, N112q, e112⟩ := hQ112
 have N112 := Fr.app N0 N112q
 refine GoW.sg (mkF m 9 #[.val (.ref a1c)] [(.int 0), (.int 1)]) (fun t k => st112.trans k) ?_
 refine GoW.st (fun t k => XS.ishr X112.here hx rfl (hb hby d12_9) rfl k) ?_
 rw [show ((1 : Int32) >>> ((0 : Int32) &&& 31)) = (1 : Int32) from by decide]
 show GoW p e below s (Q12_12 Z a1c a2c ka2c x1c x2c h0 n0) 0 0 (T112.setTop (mkF m 10 #[.val (.ref a1c)] [(.int 1)]))
 refine GoW.retI X112 hx Bd.returns (hb hby d12_10) Bd.notSynchronized ?_ (by decide) (by decide)
 rw [e112]
 exact ⟨rfl, N112, rfl⟩
def Q15_13 (Z : State) (a1c : Addr) (x1c : Int32) (h0 : Heap) (n0 : Nat) (v : Option Value) (h : Heap) (L : List Loc) : Prop := v = some (.int (1 : Int32)) ∧ Fr n0 L ∧ (h = h0)
theorem ef15_rm15_13 (m : MethodId) (a1c : Addr) : entryFrame m #[(.ref a1c)] 1 = (mkF m 0 #[.val (.ref a1c)] []) := by first | (simp [entryFrame, mkF, argsToLocals, Value.category, maxLocals]; done) | rfl
set_option maxRecDepth 65536 in
set_option maxHeartbeats 40000000 in
theorem rm15_13 (l : Launch) (Z : State) (a0 : Array Value) (hw : ∀ d ∈ tables_1, d.before a0 Z = true) (ws : List Jvm.Cond) (a1c : Addr) (x1c : Int32) (h0 : Heap) (n0 : Nat) (P0 : Fld Z h0 a1c "java/lang/String" "coder" "B" (.int (0 : Int32))) (P1 : Sta Z h0 "java/lang/String" "COMPACT_STRINGS" "Z" (.int x1c))   (u0 : ¬ (x1c = (0 : Int32)))   :
    MetFree l Y15 (head1 (Jvm.Cond.code Y15 jdk_42_method_154_code 1 (some .boolean) :: ws) ({ frames := 0, cells := 0, slots := 0, locals := 0 } : Room)) (fun a U => a = #[(.ref a1c)] ∧ Z.Warmed39 U.vm ∧ U.heap = h0) (fun _ _ _ _ _ => True) (fun _ U o U' => ∃ v L, o = .returned v ∧ (Q15_13 Z a1c x1c h0 n0) v U'.heap L ∧ FrameEnd U o U' L 0 0) := by
 refine MetFree.of_bodySF (plainFor_of_name pn_java_lang_String) hisR ?_
 intro p e s m args below meth c s₁ Bd hml0 hP hK
 obtain ⟨rfl, hZ, hh⟩ := hP
 have hx := Bd.exec
 have hby := Bd.bytes
 have hml : c.maxLocals = 1 := hml0
 have hown : s.vm.findClass "java/lang/String" = some m.cls := findClass_of_methodNamed Bd.named
 have hnm := (name_of_methodNamed Bd.named Bd.method).1
 have X0 : Stand p l e ({ frames := 0, cells := 0, slots := 0, locals := 0 } : Room) s m #[(.ref a1c)] below meth c s₁ [] 0 0 := Stand.of_body Bd
 have e0 : s₁.heap = h0 := by rw [← hh, Bd.state]; rfl
 have N0 := Fr.nil n0
 refine GoW.mk ?_
 refine GoW.st (fun t k => castTop (ef15_rm15_13 m a1c) k) ?_
 show GoW p e below s (Q15_13 Z a1c x1c h0 n0) 0 0 (s₁.setTop (mkF m 0 #[.val (.ref a1c)] []))
 obtain ⟨T116, X116, e116, st116⟩ := getS (host := "") X0 hx hZ hown (ww hw 19 rfl) Via.refl e0 P1 (g := (mkF m 0 #[.val (.ref a1c)] [])) rfl (hb hby d15_0)
 refine GoW.sg (mkF m 3 #[.val (.ref a1c)] [(.int x1c)]) (fun t k => st116 t k) ?_
 refine GoW.sg (mkF m 6 #[.val (.ref a1c)] []) (fun t k => XS.ifNo X116.here hx rfl (hb hby d15_3) rfl ((if0 _ _).trans (feq u0).1) k) ?_
 refine GoW.sg (mkF m 7 #[.val (.ref a1c)] [(.ref a1c)]) (fun t k => XS.aloadN X116.here hx rfl (hb hby d15_6) rfl rfl k) ?_
 obtain ⟨T117, X117, e117, st117⟩ := getF X116 hx hZ hown (host := "") (Or.inl (ww hw 31 rfl)) Via.refl e116 P0 (g := (mkF m 7 #[.val (.ref a1c)] [(.ref a1c)])) rfl rfl (hb hby d15_7)
 refine GoW.sg (mkF m 10 #[.val (.ref a1c)] [(.int 0)]) (fun t k => st117 t k) ?_
 refine GoW.sg (mkF m 13 #[.val (.ref a1c)] []) (fun t k => XS.ifNo X117.here hx rfl (hb hby d15_10) rfl (by decide) k) ?_
 refine GoW.sg (mkF m 14 #[.val (.ref a1c)] [(.int 1)]) (fun t k => XS.iconst X117.here hx rfl (hb hby d15_13) k) ?_
 refine GoW.sg (mkF m 18 #[.val (.ref a1c)] [(.int 1)]) (fun t k => XS.goto X117.here hx rfl (pc0 := 14) (pc' := 18) rfl (hb hby d15_14) (by decide) (by decide) k) ?_
 refine GoW.retN X117 hx (t := .boolean) Bd.returns (by simp) (hb hby d15_18) Bd.notSynchronized ?_ (by decide) (by decide)
 rw [e117]
 exact ⟨rfl, N0, rfl⟩
def Q18_14 (Z : State)  (h0 : Heap) (n0 : Nat) (v : Option Value) (h : Heap) (L : List Loc) : Prop := v = some (.int (0 : Int32)) ∧ Fr n0 L ∧ (h = h0)
theorem ef18_rm18_14 (m : MethodId)  : entryFrame m #[(.int (0 : Int32)), (.int (1 : Int32)), .null] 3 = (mkF m 0 #[.val (.int 0), .val (.int 1), .val .null] []) := by first | (simp [entryFrame, mkF, argsToLocals, Value.category, maxLocals]; done) | rfl
set_option maxRecDepth 65536 in
set_option maxHeartbeats 40000000 in
theorem rm18_14 (l : Launch) (Z : State) (a0 : Array Value) (hw : ∀ d ∈ tables_1, d.before a0 Z = true) (ws : List Jvm.Cond)   (h0 : Heap) (n0 : Nat)       :
    MetFree l Y18 (head1 (Jvm.Cond.code Y18 jdk_41_method_11_code 3 (some .int) :: ws) ({ frames := 0, cells := 0, slots := 0, locals := 0 } : Room)) (fun a U => a = #[(.int (0 : Int32)), (.int (1 : Int32)), .null] ∧ Z.Warmed39 U.vm ∧ U.heap = h0) (fun _ _ _ _ _ => True) (fun _ U o U' => ∃ v L, o = .returned v ∧ (Q18_14 Z  h0 n0) v U'.heap L ∧ FrameEnd U o U' L 0 0) := by
 refine MetFree.of_bodySF (plainFor_of_name pn_jdk_internal_util_Preconditions) hisR ?_
 intro p e s m args below meth c s₁ Bd hml0 hP hK
 obtain ⟨rfl, hZ, hh⟩ := hP
 have hx := Bd.exec
 have hby := Bd.bytes
 have hml : c.maxLocals = 3 := hml0
 have hown : s.vm.findClass "jdk/internal/util/Preconditions" = some m.cls := findClass_of_methodNamed Bd.named
 have hnm := (name_of_methodNamed Bd.named Bd.method).1
 have X0 : Stand p l e ({ frames := 0, cells := 0, slots := 0, locals := 0 } : Room) s m #[(.int (0 : Int32)), (.int (1 : Int32)), .null] below meth c s₁ [] 0 0 := Stand.of_body Bd
 have e0 : s₁.heap = h0 := by rw [← hh, Bd.state]; rfl
 have N0 := Fr.nil n0
 refine GoW.mk ?_
 refine GoW.st (fun t k => castTop (ef18_rm18_14 m ) k) ?_
 show GoW p e below s (Q18_14 Z  h0 n0) 0 0 (s₁.setTop (mkF m 0 (Sh20 0 1) []))
 refine GoW.sg (mkF m 1 (Sh20 0 1) [(.int 0)]) (fun t k => XS.iloadN X0.here hx rfl (hb hby d18_0) rfl k) ?_
 refine GoW.sg (mkF m 4 (Sh20 0 1) []) (fun t k => XS.ifNo X0.here hx rfl (hb hby d18_1) rfl (by decide) k) ?_
 refine GoW.sg (mkF m 5 (Sh20 0 1) [(.int 0)]) (fun t k => XS.iloadN X0.here hx rfl (hb hby d18_4) rfl k) ?_
 refine GoW.sg (mkF m 6 (Sh20 0 1) [(.int 1), (.int 0)]) (fun t k => XS.iloadN X0.here hx rfl (hb hby d18_5) rfl k) ?_
 refine GoW.sg (mkF m 16 (Sh20 0 1) []) (fun t k => XS.icmpYes X0.here hx rfl (pc0 := 6) (pc' := 16) rfl (hb hby d18_6) rfl (by decide) (by decide) (by decide) k) ?_
 refine GoW.sg (mkF m 17 (Sh20 0 1) [(.int 0)]) (fun t k => XS.iloadN X0.here hx rfl (hb hby d18_16) rfl k) ?_
 refine GoW.retI X0 hx Bd.returns (hb hby d18_17) Bd.notSynchronized ?_ (by decide) (by decide)
 rw [e0]
 exact ⟨rfl, N0, rfl⟩
def Q17_15 (Z : State)  (h0 : Heap) (n0 : Nat) (v : Option Value) (h : Heap) (L : List Loc) : Prop := v = none ∧ Fr n0 L ∧ (h = h0)
theorem ef17_rm17_15 (m : MethodId)  : entryFrame m #[(.int (0 : Int32)), (.int (1 : Int32))] 2 = (mkF m 0 #[.val (.int 0), .val (.int 1)] []) := by first | (simp [entryFrame, mkF, argsToLocals, Value.category, maxLocals]; done) | rfl
set_option maxRecDepth 65536 in
set_option maxHeartbeats 40000000 in
theorem rm17_15 (l : Launch) (Z : State) (a0 : Array Value) (hw : ∀ d ∈ tables_1, d.before a0 Z = true) (ws : List Jvm.Cond)   (h0 : Heap) (n0 : Nat) (P0 : Sta Z h0 "jdk/internal/util/Preconditions" "SIOOBE_FORMATTER" "Ljava/util/function/BiFunction;" .null)      :
    MetFree l Y17 (head1 (Jvm.Cond.code Y17 jdk_42_method_155_code 2 none :: ws) ({ frames := 1, cells := 0, slots := 0, locals := 14 } : Room)) (fun a U => a = #[(.int (0 : Int32)), (.int (1 : Int32))] ∧ Z.Warmed39 U.vm ∧ U.heap = h0) (fun _ _ _ _ _ => True) (fun _ U o U' => ∃ v L, o = .returned v ∧ (Q17_15 Z  h0 n0) v U'.heap L ∧ FrameEnd U o U' L 0 0) := by
 refine MetFree.of_bodySF (plainFor_of_name pn_java_lang_String) hisR ?_
 intro p e s m args below meth c s₁ Bd hml0 hP hK
 obtain ⟨rfl, hZ, hh⟩ := hP
 have hx := Bd.exec
 have hby := Bd.bytes
 have hml : c.maxLocals = 2 := hml0
 have hown : s.vm.findClass "java/lang/String" = some m.cls := findClass_of_methodNamed Bd.named
 have hnm := (name_of_methodNamed Bd.named Bd.method).1
 have X0 : Stand p l e ({ frames := 1, cells := 0, slots := 0, locals := 14 } : Room) s m #[(.int (0 : Int32)), (.int (1 : Int32))] below meth c s₁ [] 0 0 := Stand.of_body Bd
 have e0 : s₁.heap = h0 := by rw [← hh, Bd.state]; rfl
 have N0 := Fr.nil n0
 refine GoW.mk ?_
 refine GoW.st (fun t k => castTop (ef17_rm17_15 m ) k) ?_
 show GoW p e below s (Q17_15 Z  h0 n0) 0 0 (s₁.setTop (mkF m 0 #[.val (.int 0), .val (.int 1)] []))
 refine GoW.sg (mkF m 1 #[.val (.int 0), .val (.int 1)] [(.int 0)]) (fun t k => XS.iloadN X0.here hx rfl (hb hby d17_0) rfl k) ?_
 refine GoW.sg (mkF m 2 #[.val (.int 0), .val (.int 1)] [(.int 1), (.int 0)]) (fun t k => XS.iloadN X0.here hx rfl (hb hby d17_1) rfl k) ?_
 obtain ⟨T123, X123, e123, st123⟩ := getS (host := "") X0 hx hZ hown (ww hw 88 rfl) Via.refl e0 P0 (g := (mkF m 2 #[.val (.int 0), .val (.int 1)] [(.int 1), (.int 0)])) rfl (hb hby d17_2)
 refine GoW.sg (mkF m 5 #[.val (.int 0), .val (.int 1)] [.null, (.int 1), (.int 0)]) (fun t k => st123 t k) ?_
 obtain ⟨_, T124, L124, X124, hQ124, st124⟩ := own_callS X123 hx hZ hown (y := Y18) (ww hw 90 rfl) (ww hw 91 rfl) (ww hw 89 rfl) (ww hw 92 rfl) (by decide) 0 (rm18_14 l Z a0 hw []   h0 n0      ) (by decide) (by decide) e123 (by decide) (by decide) (g := (mkF m 5 #[.val (.int 0), .val (.int 1)] [.null, (.int 1), (.int 0)])) rfl (by rw [hml]; rfl) (argsL := [(.int (0 : Int32)), (.int (1 : Int32)), .null]) (rest := []) (lenOf pd_28IILjava2futil2ffunction2fBiFunction3b29I rfl) rfl (by show 2 * 0 + _ ≤ _; exact Nat.le_of_eq rfl) (hb hby d17_5)
 obtain ⟨rfl, N124q, e124⟩ := hQ124
 have N124 := Fr.app N0 N124q
 refine GoW.sg (mkF m 8 #[.val (.int 0), .val (.int 1)] [(.int 0)]) (fun t k => st124 t k) ?_
 refine GoW.sg (mkF m 9 #[.val (.int 0), .val (.int 1)] []) (fun t k => XS.pop X124.here hx rfl (hb hby d17_8) rfl rfl k) ?_
 refine GoW.retV X124 hx Bd.returns (hb hby d17_9) Bd.notSynchronized ?_ (by decide) (by decide)
 rw [e124]
 exact ⟨rfl, N124, rfl⟩
def Q16_16 (Z : State) (a1c : Addr) (ka1c : ClassId) (x1c : Int32) (h0 : Heap) (n0 : Nat) (v : Option Value) (h : Heap) (L : List Loc) : Prop := v = some (.int (nar .char (x1c &&& (255 : Int32)).toUInt32.toUInt16.toUInt32.toInt32)) ∧ Fr n0 L ∧ (h = h0)
theorem ef16_rm16_16 (m : MethodId) (a1c : Addr) : entryFrame m #[(.ref a1c), (.int (0 : Int32))] 2 = (mkF m 0 #[.val (.ref a1c), .val (.int 0)] []) := by first | (simp [entryFrame, mkF, argsToLocals, Value.category, maxLocals]; done) | rfl
set_option maxRecDepth 65536 in
set_option maxHeartbeats 40000000 in
theorem rm16_16 (l : Launch) (Z : State) (a0 : Array Value) (hw : ∀ d ∈ tables_1, d.before a0 Z = true) (ws : List Jvm.Cond) (a1c : Addr) (ka1c : ClassId) (x1c : Int32) (h0 : Heap) (n0 : Nat) (P0 : Arv Z h0 a1c ka1c .byte (1 : Int32) [(.int x1c)] (.int (0 : Int32))) (P1 : Sta Z h0 "jdk/internal/util/Preconditions" "SIOOBE_FORMATTER" "Ljava/util/function/BiFunction;" .null)      :
    MetFree l Y16 (head1 (Jvm.Cond.code Y16 jdk_43_method_2_code 2 (some .char) :: ws) ({ frames := 2, cells := 0, slots := 0, locals := 27 } : Room)) (fun a U => a = #[(.ref a1c), (.int (0 : Int32))] ∧ Z.Warmed39 U.vm ∧ U.heap = h0) (fun _ _ _ _ _ => True) (fun _ U o U' => ∃ v L, o = .returned v ∧ (Q16_16 Z a1c ka1c x1c h0 n0) v U'.heap L ∧ FrameEnd U o U' L 0 0) := by
 refine MetFree.of_bodySF (plainFor_of_name pn_java_lang_StringLatin1) hisR ?_
 intro p e s m args below meth c s₁ Bd hml0 hP hK
 obtain ⟨rfl, hZ, hh⟩ := hP
 have hx := Bd.exec
 have hby := Bd.bytes
 have hml : c.maxLocals = 2 := hml0
 have hown : s.vm.findClass "java/lang/StringLatin1" = some m.cls := findClass_of_methodNamed Bd.named
 have hnm := (name_of_methodNamed Bd.named Bd.method).1
 have X0 : Stand p l e ({ frames := 2, cells := 0, slots := 0, locals := 27 } : Room) s m #[(.ref a1c), (.int (0 : Int32))] below meth c s₁ [] 0 0 := Stand.of_body Bd
 have e0 : s₁.heap = h0 := by rw [← hh, Bd.state]; rfl
 have N0 := Fr.nil n0
 refine GoW.mk ?_
 refine GoW.st (fun t k => castTop (ef16_rm16_16 m a1c) k) ?_
 show GoW p e below s (Q16_16 Z a1c ka1c x1c h0 n0) 0 0 (s₁.setTop (mkF m 0 #[.val (.ref a1c), .val (.int 0)] []))
 refine GoW.sg (mkF m 1 #[.val (.ref a1c), .val (.int 0)] [(.int 0)]) (fun t k => XS.iloadN X0.here hx rfl (hb hby d16_0) rfl k) ?_
 refine GoW.sg (mkF m 2 #[.val (.ref a1c), .val (.int 0)] [(.ref a1c), (.int 0)]) (fun t k => XS.aloadN X0.here hx rfl (hb hby d16_1) rfl rfl k) ?_
 obtain ⟨cl127, Ar127, q127, Sz127, Nn127, Hh127, Gg127⟩ := id P0
 have st127 := X0.arraylength hx (hq_ e0 Ar127.1) (State.isArrayOf_alike hZ.alike Ar127.2.1) (g := (mkF m 2 #[.val (.ref a1c), .val (.int 0)] [(.ref a1c), (.int 0)])) rfl rfl (hb hby d16_2)
 rw [len_of Sz127 Nn127] at st127
 refine GoW.sg (mkF m 3 #[.val (.ref a1c), .val (.int 0)] [(.int 1), (.int 0)]) (fun t k => st127 t k) ?_
 obtain ⟨_, T130, L130, X130, hQ130, st130⟩ := own_callS X0 hx hZ hown (y := Y17) (ww hw 85 rfl) (ww hw 86 rfl) (ww hw 7 rfl) (ww hw 87 rfl) (by decide) 0 (rm17_15 l Z a0 hw []   h0 n0  P1    ) (by decide) (by decide) e0 (by decide) (by decide) (g := (mkF m 3 #[.val (.ref a1c), .val (.int 0)] [(.int 1), (.int 0)])) rfl (by rw [hml]; rfl) (argsL := [(.int (0 : Int32)), (.int (1 : Int32))]) (rest := []) (lenOf pd_28II29V rfl) rfl (by show 2 * 0 + _ ≤ _; exact Nat.le_of_eq rfl) (hb hby d16_3)
 obtain ⟨rfl, N130q, e130⟩ := hQ130
 have N130 := Fr.app N0 N130q
 refine GoW.sg (mkF m 6 #[.val (.ref a1c), .val (.int 0)] []) (fun t k => st130 t k) ?_
 refine GoW.sg (mkF m 7 #[.val (.ref a1c), .val (.int 0)] [(.ref a1c)]) (fun t k => XS.aloadN X130.here hx rfl (hb hby d16_6) rfl rfl k) ?_
 refine GoW.sg (mkF m 8 #[.val (.ref a1c), .val (.int 0)] [(.int 0), (.ref a1c)]) (fun t k => XS.iloadN X130.here hx rfl (hb hby d16_7) rfl k) ?_
 obtain ⟨cl131, Ar131, q131, Sz131, Nn131, Hh131, Gg131⟩ := id P0
 have hin131 : ¬ ((0 : Int32) < 0 ∨ cl131.slots.size ≤ ((0 : Int32)).toNatClampNeg) := inb_of Sz131 ⟨by decide, by decide⟩
 refine GoW.sg (mkF m 9 #[.val (.ref a1c), .val (.int 0)] [(.int x1c)]) (fun t k => X130.baloadBytes hx (j := (0 : Int32)) (v := (.int x1c)) (hq_ e130 Ar131.1) (State.isArrayOf_alike hZ.alike Ar131.2.1) Ar131.2.2 hin131 (Hh131.at hin131 rfl) (g := (mkF m 8 #[.val (.ref a1c), .val (.int 0)] [(.int 0), (.ref a1c)])) rfl rfl (hb hby d16_8) t k) ?_
 refine GoW.sg (mkF m 12 #[.val (.ref a1c), .val (.int 0)] [(.int 255), (.int x1c)]) (fun t k => XS.sipush X130.here hx rfl (hb hby d16_9) k) ?_
 refine GoW.sg (mkF m 13 #[.val (.ref a1c), .val (.int 0)] [(.int (x1c &&& (255 : Int32)))]) (fun t k => XS.iand X130.here hx rfl (hb hby d16_12) rfl k) ?_
 refine GoW.sg (mkF m 14 #[.val (.ref a1c), .val (.int 0)] [(.int (x1c &&& (255 : Int32)).toUInt32.toUInt16.toUInt32.toInt32)]) (fun t k => XS.i2c X130.here hx rfl (hb hby d16_13) rfl k) ?_
 refine GoW.retN X130 hx (t := .char) Bd.returns (by simp) (hb hby d16_14) Bd.notSynchronized ?_ (by decide) (by decide)
 rw [e130]
 exact ⟨rfl, N130, rfl⟩
def Q14_17 (Z : State) (a1c : Addr) (a2c : Addr) (ka2c : ClassId) (x1c : Int32) (x2c : Int32) (h0 : Heap) (n0 : Nat) (v : Option Value) (h : Heap) (L : List Loc) : Prop := v = some (.int (nar .char (nar .char (x1c &&& (255 : Int32)).toUInt32.toUInt16.toUInt32.toInt32))) ∧ Fr n0 L ∧ (h = h0)
theorem ef14_rm14_17 (m : MethodId) (a1c : Addr) : entryFrame m #[(.ref a1c), (.int (0 : Int32))] 2 = (mkF m 0 #[.val (.ref a1c), .val (.int 0)] []) := by first | (simp [entryFrame, mkF, argsToLocals, Value.category, maxLocals]; done) | rfl
set_option maxRecDepth 65536 in
set_option maxHeartbeats 40000000 in
theorem rm14_17 (l : Launch) (Z : State) (a0 : Array Value) (hw : ∀ d ∈ tables_1, d.before a0 Z = true) (ws : List Jvm.Cond) (a1c : Addr) (a2c : Addr) (ka2c : ClassId) (x1c : Int32) (x2c : Int32) (h0 : Heap) (n0 : Nat) (P0 : Exa Z h0 a1c "java/lang/String") (P1 : Fld Z h0 a1c "java/lang/String" "coder" "B" (.int (0 : Int32))) (P2 : Fld Z h0 a1c "java/lang/String" "value" "[B" (.ref a2c)) (P3 : Arv Z h0 a2c ka2c .byte (1 : Int32) [(.int x1c)] (.int (0 : Int32))) (P4 : Sta Z h0 "java/lang/String" "COMPACT_STRINGS" "Z" (.int x2c)) (P5 : Sta Z h0 "jdk/internal/util/Preconditions" "SIOOBE_FORMATTER" "Ljava/util/function/BiFunction;" .null)   (u0 : ¬ (x2c = (0 : Int32)))   :
    MetFree l Y14 (head1 (Jvm.Cond.code Y14 jdk_42_method_56_code 2 (some .char) :: ws) ({ frames := 3, cells := 0, slots := 0, locals := 40 } : Room)) (fun a U => a = #[(.ref a1c), (.int (0 : Int32))] ∧ Z.Warmed39 U.vm ∧ U.heap = h0) (fun _ _ _ _ _ => True) (fun _ U o U' => ∃ v L, o = .returned v ∧ (Q14_17 Z a1c a2c ka2c x1c x2c h0 n0) v U'.heap L ∧ FrameEnd U o U' L 0 0) := by
 refine MetFree.of_bodySF (plainFor_of_name pn_java_lang_String) hisR ?_
 intro p e s m args below meth c s₁ Bd hml0 hP hK
 obtain ⟨rfl, hZ, hh⟩ := hP
 have hx := Bd.exec
 have hby := Bd.bytes
 have hml : c.maxLocals = 2 := hml0
 have hown : s.vm.findClass "java/lang/String" = some m.cls := findClass_of_methodNamed Bd.named
 have hnm := (name_of_methodNamed Bd.named Bd.method).1
 have X0 : Stand p l e ({ frames := 3, cells := 0, slots := 0, locals := 40 } : Room) s m #[(.ref a1c), (.int (0 : Int32))] below meth c s₁ [] 0 0 := Stand.of_body Bd
 have e0 : s₁.heap = h0 := by rw [← hh, Bd.state]; rfl
 have N0 := Fr.nil n0
 refine GoW.mk ?_
 refine GoW.st (fun t k => castTop (ef14_rm14_17 m a1c) k) ?_
 show GoW p e below s (Q14_17 Z a1c a2c ka2c x1c x2c h0 n0) 0 0 (s₁.setTop (mkF m 0 #[.val (.ref a1c), .val (.int 0)] []))
 refine GoW.sg (mkF m 1 #[.val (.ref a1c), .val (.int 0)] [(.ref a1c)]) (fun t k => XS.aloadN X0.here hx rfl (hb hby d14_0) rfl rfl k) ?_
 obtain ⟨cq133, kq133, q133a, q133b, q133c⟩ := isOf hZ e0 P0
 obtain ⟨_, _, ⟨T133, L133, k133, n133⟩, -, X133, ⟨Lc133, hQ133, l133, y133, z133⟩, st133⟩ := X0.virtualBack hx (y := Y15) (z := Y15) hown (mvT hZ (ww hw 76 rfl)) (mvT hZ (ww hw 77 rfl)) (notFace_of_selects (args := #[]) (mvT hZ (ww hw 79 rfl))) (mvT hZ (ww hw 79 rfl)) (mvT hZ (ww hw 78 rfl)) (by decide) (backOf (W := 0) (rm15_13 l Z a0 hw [] a1c x2c h0 n0  P1 P4   u0 ) hZ (ww hw 80 rfl) (ww hw 7 rfl) (by decide) (by decide)) q133a q133c (g := (mkF m 1 #[.val (.ref a1c), .val (.int 0)] [(.ref a1c)])) rfl (by rw [hml]; rfl) (Steps.refl _) (argsL := []) (rest := []) (lenOf pd_2829Z rfl) rfl (by show 2 * 0 + _ ≤ _; exact Nat.le_of_eq rfl) (hb hby d14_1) (fun _ _ => ⟨rfl, e0, (by decide : 0 + 0 ≤ _), (by decide : 0 + 0 ≤ _)⟩)
 dsimp only [Pt.U, Pt.locs, Pt.cells, Pt.slots] at X133 l133 y133 z133 st133 hQ133
 subst l133 y133 z133
 obtain ⟨rfl, N133q, e133⟩ := hQ133
 have N133 := Fr.app N0 N133q
 refine GoW.sg (mkF m 4 #[.val (.ref a1c), .val (.int 0)] [(.int 1)]) (fun t k => st133.trans k) ?_
 refine GoW.sg (mkF m 7 #[.val (.ref a1c), .val (.int 0)] []) (fun t k => XS.ifNo X133.here hx rfl (hb hby d14_4) rfl (by decide) k) ?_
 refine GoW.sg (mkF m 8 #[.val (.ref a1c), .val (.int 0)] [(.ref a1c)]) (fun t k => XS.aloadN X133.here hx rfl (hb hby d14_7) rfl rfl k) ?_
 obtain ⟨T134, X134, e134, st134⟩ := getF X133 hx hZ hown (host := "") (Or.inl (ww hw 33 rfl)) Via.refl e133 P2 (g := (mkF m 8 #[.val (.ref a1c), .val (.int 0)] [(.ref a1c)])) rfl rfl (hb hby d14_8)
 refine GoW.sg (mkF m 11 #[.val (.ref a1c), .val (.int 0)] [(.ref a2c)]) (fun t k => st134 t k) ?_
 refine GoW.sg (mkF m 12 #[.val (.ref a1c), .val (.int 0)] [(.int 0), (.ref a2c)]) (fun t k => XS.iloadN X134.here hx rfl (hb hby d14_11) rfl k) ?_
 obtain ⟨_, T135, L135, X135, hQ135, st135⟩ := own_callS X134 hx hZ hown (y := Y16) (ww hw 81 rfl) (ww hw 82 rfl) (ww hw 83 rfl) (ww hw 84 rfl) (by decide) 0 (rm16_16 l Z a0 hw [] a2c ka2c x1c h0 n0  P3 P5    ) (by decide) (by decide) e134 (by decide) (by decide) (g := (mkF m 12 #[.val (.ref a1c), .val (.int 0)] [(.int 0), (.ref a2c)])) rfl (by rw [hml]; rfl) (argsL := [(.ref a2c), (.int (0 : Int32))]) (rest := []) (lenOf pd_285bBI29C rfl) rfl (by show 2 * 0 + _ ≤ _; exact Nat.le_of_eq rfl) (hb hby d14_12)
 obtain ⟨rfl, N135q, e135⟩ := hQ135
 have N135 := Fr.app N133 N135q
 refine GoW.sg (mkF m 15 #[.val (.ref a1c), .val (.int 0)] [(.int (nar .char (x1c &&& (255 : Int32)).toUInt32.toUInt16.toUInt32.toInt32))]) (fun t k => st135 t k) ?_
 refine GoW.retN X135 hx (t := .char) Bd.returns (by simp) (hb hby d14_15) Bd.notSynchronized ?_ (by decide) (by decide)
 rw [e135]
 exact ⟨rfl, N135, rfl⟩
def Q18_18 (Z : State) (a1c : Addr) (h0 : Heap) (n0 : Nat) (v : Option Value) (h : Heap) (L : List Loc) : Prop := v = some (.int (0 : Int32)) ∧ Fr n0 L ∧ (h = h0)
theorem ef18_rm18_18 (m : MethodId) (a1c : Addr) : entryFrame m #[(.int (0 : Int32)), (.int (1 : Int32)), (.ref a1c)] 3 = (mkF m 0 #[.val (.int 0), .val (.int 1), .val (.ref a1c)] []) := by first | (simp [entryFrame, mkF, argsToLocals, Value.category, maxLocals]; done) | rfl
set_option maxRecDepth 65536 in
set_option maxHeartbeats 40000000 in
theorem rm18_18 (l : Launch) (Z : State) (a0 : Array Value) (hw : ∀ d ∈ tables_1, d.before a0 Z = true) (ws : List Jvm.Cond) (a1c : Addr)  (h0 : Heap) (n0 : Nat)       :
    MetFree l Y18 (head1 (Jvm.Cond.code Y18 jdk_41_method_11_code 3 (some .int) :: ws) ({ frames := 0, cells := 0, slots := 0, locals := 0 } : Room)) (fun a U => a = #[(.int (0 : Int32)), (.int (1 : Int32)), (.ref a1c)] ∧ Z.Warmed39 U.vm ∧ U.heap = h0) (fun _ _ _ _ _ => True) (fun _ U o U' => ∃ v L, o = .returned v ∧ (Q18_18 Z a1c h0 n0) v U'.heap L ∧ FrameEnd U o U' L 0 0) := by
 refine MetFree.of_bodySF (plainFor_of_name pn_jdk_internal_util_Preconditions) hisR ?_
 intro p e s m args below meth c s₁ Bd hml0 hP hK
 obtain ⟨rfl, hZ, hh⟩ := hP
 have hx := Bd.exec
 have hby := Bd.bytes
 have hml : c.maxLocals = 3 := hml0
 have hown : s.vm.findClass "jdk/internal/util/Preconditions" = some m.cls := findClass_of_methodNamed Bd.named
 have hnm := (name_of_methodNamed Bd.named Bd.method).1
 have X0 : Stand p l e ({ frames := 0, cells := 0, slots := 0, locals := 0 } : Room) s m #[(.int (0 : Int32)), (.int (1 : Int32)), (.ref a1c)] below meth c s₁ [] 0 0 := Stand.of_body Bd
 have e0 : s₁.heap = h0 := by rw [← hh, Bd.state]; rfl
 have N0 := Fr.nil n0
 refine GoW.mk ?_
 refine GoW.st (fun t k => castTop (ef18_rm18_18 m a1c) k) ?_
 show GoW p e below s (Q18_18 Z a1c h0 n0) 0 0 (s₁.setTop (mkF m 0 (Sh21 0 1 a1c) []))
 refine GoW.sg (mkF m 1 (Sh21 0 1 a1c) [(.int 0)]) (fun t k => XS.iloadN X0.here hx rfl (hb hby d18_0) rfl k) ?_
 refine GoW.sg (mkF m 4 (Sh21 0 1 a1c) []) (fun t k => XS.ifNo X0.here hx rfl (hb hby d18_1) rfl (by decide) k) ?_
 refine GoW.sg (mkF m 5 (Sh21 0 1 a1c) [(.int 0)]) (fun t k => XS.iloadN X0.here hx rfl (hb hby d18_4) rfl k) ?_
 refine GoW.sg (mkF m 6 (Sh21 0 1 a1c) [(.int 1), (.int 0)]) (fun t k => XS.iloadN X0.here hx rfl (hb hby d18_5) rfl k) ?_
 refine GoW.sg (mkF m 16 (Sh21 0 1 a1c) []) (fun t k => XS.icmpYes X0.here hx rfl (pc0 := 6) (pc' := 16) rfl (hb hby d18_6) rfl (by decide) (by decide) (by decide) k) ?_
 refine GoW.sg (mkF m 17 (Sh21 0 1 a1c) [(.int 0)]) (fun t k => XS.iloadN X0.here hx rfl (hb hby d18_16) rfl k) ?_
 refine GoW.retI X0 hx Bd.returns (hb hby d18_17) Bd.notSynchronized ?_ (by decide) (by decide)
 rw [e0]
 exact ⟨rfl, N0, rfl⟩
def Q17_19 (Z : State) (a1c : Addr) (h0 : Heap) (n0 : Nat) (v : Option Value) (h : Heap) (L : List Loc) : Prop := v = none ∧ Fr n0 L ∧ (h = h0)
theorem ef17_rm17_19 (m : MethodId)  : entryFrame m #[(.int (0 : Int32)), (.int (1 : Int32))] 2 = (mkF m 0 #[.val (.int 0), .val (.int 1)] []) := by first | (simp [entryFrame, mkF, argsToLocals, Value.category, maxLocals]; done) | rfl
set_option maxRecDepth 65536 in
set_option maxHeartbeats 40000000 in
theorem rm17_19 (l : Launch) (Z : State) (a0 : Array Value) (hw : ∀ d ∈ tables_1, d.before a0 Z = true) (ws : List Jvm.Cond)  (a1c : Addr) (h0 : Heap) (n0 : Nat) (P0 : Sta Z h0 "jdk/internal/util/Preconditions" "SIOOBE_FORMATTER" "Ljava/util/function/BiFunction;" (.ref a1c))      :
    MetFree l Y17 (head1 (Jvm.Cond.code Y17 jdk_42_method_155_code 2 none :: ws) ({ frames := 1, cells := 0, slots := 0, locals := 14 } : Room)) (fun a U => a = #[(.int (0 : Int32)), (.int (1 : Int32))] ∧ Z.Warmed39 U.vm ∧ U.heap = h0) (fun _ _ _ _ _ => True) (fun _ U o U' => ∃ v L, o = .returned v ∧ (Q17_19 Z a1c h0 n0) v U'.heap L ∧ FrameEnd U o U' L 0 0) := by
 refine MetFree.of_bodySF (plainFor_of_name pn_java_lang_String) hisR ?_
 intro p e s m args below meth c s₁ Bd hml0 hP hK
 obtain ⟨rfl, hZ, hh⟩ := hP
 have hx := Bd.exec
 have hby := Bd.bytes
 have hml : c.maxLocals = 2 := hml0
 have hown : s.vm.findClass "java/lang/String" = some m.cls := findClass_of_methodNamed Bd.named
 have hnm := (name_of_methodNamed Bd.named Bd.method).1
 have X0 : Stand p l e ({ frames := 1, cells := 0, slots := 0, locals := 14 } : Room) s m #[(.int (0 : Int32)), (.int (1 : Int32))] below meth c s₁ [] 0 0 := Stand.of_body Bd
 have e0 : s₁.heap = h0 := by rw [← hh, Bd.state]; rfl
 have N0 := Fr.nil n0
 refine GoW.mk ?_
 refine GoW.st (fun t k => castTop (ef17_rm17_19 m ) k) ?_
 show GoW p e below s (Q17_19 Z a1c h0 n0) 0 0 (s₁.setTop (mkF m 0 #[.val (.int 0), .val (.int 1)] []))
 refine GoW.sg (mkF m 1 #[.val (.int 0), .val (.int 1)] [(.int 0)]) (fun t k => XS.iloadN X0.here hx rfl (hb hby d17_0) rfl k) ?_
 refine GoW.sg (mkF m 2 #[.val (.int 0), .val (.int 1)] [(.int 1), (.int 0)]) (fun t k => XS.iloadN X0.here hx rfl (hb hby d17_1) rfl k) ?_
 obtain ⟨T144, X144, e144, st144⟩ := getS (host := "") X0 hx hZ hown (ww hw 88 rfl) Via.refl e0 P0 (g := (mkF m 2 #[.val (.int 0), .val (.int 1)] [(.int 1), (.int 0)])) rfl (hb hby d17_2)
 refine GoW.sg (mkF m 5 #[.val (.int 0), .val (.int 1)] [(.ref a1c), (.int 1), (.int 0)]) (fun t k => st144 t k) ?_
 obtain ⟨_, T145, L145, X145, hQ145, st145⟩ := own_callS X144 hx hZ hown (y := Y18) (ww hw 90 rfl) (ww hw 91 rfl) (ww hw 89 rfl) (ww hw 92 rfl) (by decide) 0 (rm18_18 l Z a0 hw [] a1c  h0 n0      ) (by decide) (by decide) e144 (by decide) (by decide) (g := (mkF m 5 #[.val (.int 0), .val (.int 1)] [(.ref a1c), (.int 1), (.int 0)])) rfl (by rw [hml]; rfl) (argsL := [(.int (0 : Int32)), (.int (1 : Int32)), (.ref a1c)]) (rest := []) (lenOf pd_28IILjava2futil2ffunction2fBiFunction3b29I rfl) rfl (by show 2 * 0 + _ ≤ _; exact Nat.le_of_eq rfl) (hb hby d17_5)
 obtain ⟨rfl, N145q, e145⟩ := hQ145
 have N145 := Fr.app N0 N145q
 refine GoW.sg (mkF m 8 #[.val (.int 0), .val (.int 1)] [(.int 0)]) (fun t k => st145 t k) ?_
 refine GoW.sg (mkF m 9 #[.val (.int 0), .val (.int 1)] []) (fun t k => XS.pop X145.here hx rfl (hb hby d17_8) rfl rfl k) ?_
 refine GoW.retV X145 hx Bd.returns (hb hby d17_9) Bd.notSynchronized ?_ (by decide) (by decide)
 rw [e145]
 exact ⟨rfl, N145, rfl⟩
def Q16_20 (Z : State) (a1c : Addr) (ka1c : ClassId) (x1c : Int32) (a2c : Addr) (h0 : Heap) (n0 : Nat) (v : Option Value) (h : Heap) (L : List Loc) : Prop := v = some (.int (nar .char (x1c &&& (255 : Int32)).toUInt32.toUInt16.toUInt32.toInt32)) ∧ Fr n0 L ∧ (h = h0)
theorem ef16_rm16_20 (m : MethodId) (a1c : Addr) : entryFrame m #[(.ref a1c), (.int (0 : Int32))] 2 = (mkF m 0 #[.val (.ref a1c), .val (.int 0)] []) := by first | (simp [entryFrame, mkF, argsToLocals, Value.category, maxLocals]; done) | rfl
set_option maxRecDepth 65536 in
set_option maxHeartbeats 40000000 in
theorem rm16_20 (l : Launch) (Z : State) (a0 : Array Value) (hw : ∀ d ∈ tables_1, d.before a0 Z = true) (ws : List Jvm.Cond) (a1c : Addr) (ka1c : ClassId) (x1c : Int32) (a2c : Addr) (h0 : Heap) (n0 : Nat) (P0 : Arv Z h0 a1c ka1c .byte (1 : Int32) [(.int x1c)] (.int (0 : Int32))) (P1 : Sta Z h0 "jdk/internal/util/Preconditions" "SIOOBE_FORMATTER" "Ljava/util/function/BiFunction;" (.ref a2c))      :
    MetFree l Y16 (head1 (Jvm.Cond.code Y16 jdk_43_method_2_code 2 (some .char) :: ws) ({ frames := 2, cells := 0, slots := 0, locals := 27 } : Room)) (fun a U => a = #[(.ref a1c), (.int (0 : Int32))] ∧ Z.Warmed39 U.vm ∧ U.heap = h0) (fun _ _ _ _ _ => True) (fun _ U o U' => ∃ v L, o = .returned v ∧ (Q16_20 Z a1c ka1c x1c a2c h0 n0) v U'.heap L ∧ FrameEnd U o U' L 0 0) := by
 refine MetFree.of_bodySF (plainFor_of_name pn_java_lang_StringLatin1) hisR ?_
 intro p e s m args below meth c s₁ Bd hml0 hP hK
 obtain ⟨rfl, hZ, hh⟩ := hP
 have hx := Bd.exec
 have hby := Bd.bytes
 have hml : c.maxLocals = 2 := hml0
 have hown : s.vm.findClass "java/lang/StringLatin1" = some m.cls := findClass_of_methodNamed Bd.named
 have hnm := (name_of_methodNamed Bd.named Bd.method).1
 have X0 : Stand p l e ({ frames := 2, cells := 0, slots := 0, locals := 27 } : Room) s m #[(.ref a1c), (.int (0 : Int32))] below meth c s₁ [] 0 0 := Stand.of_body Bd
 have e0 : s₁.heap = h0 := by rw [← hh, Bd.state]; rfl
 have N0 := Fr.nil n0
 refine GoW.mk ?_
 refine GoW.st (fun t k => castTop (ef16_rm16_20 m a1c) k) ?_
 show GoW p e below s (Q16_20 Z a1c ka1c x1c a2c h0 n0) 0 0 (s₁.setTop (mkF m 0 #[.val (.ref a1c), .val (.int 0)] []))
 refine GoW.sg (mkF m 1 #[.val (.ref a1c), .val (.int 0)] [(.int 0)]) (fun t k => XS.iloadN X0.here hx rfl (hb hby d16_0) rfl k) ?_
 refine GoW.sg (mkF m 2 #[.val (.ref a1c), .val (.int 0)] [(.ref a1c), (.int 0)]) (fun t k => XS.aloadN X0.here hx rfl (hb hby d16_1) rfl rfl k) ?_
 obtain ⟨cl148, Ar148, q148, Sz148, Nn148, Hh148, Gg148⟩ := id P0
 have st148 := X0.arraylength hx (hq_ e0 Ar148.1) (State.isArrayOf_alike hZ.alike Ar148.2.1) (g := (mkF m 2 #[.val (.ref a1c), .val (.int 0)] [(.ref a1c), (.int 0)])) rfl rfl (hb hby d16_2)
 rw [len_of Sz148 Nn148] at st148
 refine GoW.sg (mkF m 3 #[.val (.ref a1c), .val (.int 0)] [(.int 1), (.int 0)]) (fun t k => st148 t k) ?_
 obtain ⟨_, T151, L151, X151, hQ151, st151⟩ := own_callS X0 hx hZ hown (y := Y17) (ww hw 85 rfl) (ww hw 86 rfl) (ww hw 7 rfl) (ww hw 87 rfl) (by decide) 0 (rm17_19 l Z a0 hw []  a2c h0 n0  P1    ) (by decide) (by decide) e0 (by decide) (by decide) (g := (mkF m 3 #[.val (.ref a1c), .val (.int 0)] [(.int 1), (.int 0)])) rfl (by rw [hml]; rfl) (argsL := [(.int (0 : Int32)), (.int (1 : Int32))]) (rest := []) (lenOf pd_28II29V rfl) rfl (by show 2 * 0 + _ ≤ _; exact Nat.le_of_eq rfl) (hb hby d16_3)
 obtain ⟨rfl, N151q, e151⟩ := hQ151
 have N151 := Fr.app N0 N151q
 refine GoW.sg (mkF m 6 #[.val (.ref a1c), .val (.int 0)] []) (fun t k => st151 t k) ?_
 refine GoW.sg (mkF m 7 #[.val (.ref a1c), .val (.int 0)] [(.ref a1c)]) (fun t k => XS.aloadN X151.here hx rfl (hb hby d16_6) rfl rfl k) ?_
 refine GoW.sg (mkF m 8 #[.val (.ref a1c), .val (.int 0)] [(.int 0), (.ref a1c)]) (fun t k => XS.iloadN X151.here hx rfl (hb hby d16_7) rfl k) ?_
 obtain ⟨cl152, Ar152, q152, Sz152, Nn152, Hh152, Gg152⟩ := id P0
 have hin152 : ¬ ((0 : Int32) < 0 ∨ cl152.slots.size ≤ ((0 : Int32)).toNatClampNeg) := inb_of Sz152 ⟨by decide, by decide⟩
 refine GoW.sg (mkF m 9 #[.val (.ref a1c), .val (.int 0)] [(.int x1c)]) (fun t k => X151.baloadBytes hx (j := (0 : Int32)) (v := (.int x1c)) (hq_ e151 Ar152.1) (State.isArrayOf_alike hZ.alike Ar152.2.1) Ar152.2.2 hin152 (Hh152.at hin152 rfl) (g := (mkF m 8 #[.val (.ref a1c), .val (.int 0)] [(.int 0), (.ref a1c)])) rfl rfl (hb hby d16_8) t k) ?_
 refine GoW.sg (mkF m 12 #[.val (.ref a1c), .val (.int 0)] [(.int 255), (.int x1c)]) (fun t k => XS.sipush X151.here hx rfl (hb hby d16_9) k) ?_
 refine GoW.sg (mkF m 13 #[.val (.ref a1c), .val (.int 0)] [(.int (x1c &&& (255 : Int32)))]) (fun t k => XS.iand X151.here hx rfl (hb hby d16_12) rfl k) ?_
 refine GoW.sg (mkF m 14 #[.val (.ref a1c), .val (.int 0)] [(.int (x1c &&& (255 : Int32)).toUInt32.toUInt16.toUInt32.toInt32)]) (fun t k => XS.i2c X151.here hx rfl (hb hby d16_13) rfl k) ?_
 refine GoW.retN X151 hx (t := .char) Bd.returns (by simp) (hb hby d16_14) Bd.notSynchronized ?_ (by decide) (by decide)
 rw [e151]
 exact ⟨rfl, N151, rfl⟩
def Q14_21 (Z : State) (a1c : Addr) (a2c : Addr) (ka2c : ClassId) (x1c : Int32) (x2c : Int32) (a3c : Addr) (h0 : Heap) (n0 : Nat) (v : Option Value) (h : Heap) (L : List Loc) : Prop := v = some (.int (nar .char (nar .char (x1c &&& (255 : Int32)).toUInt32.toUInt16.toUInt32.toInt32))) ∧ Fr n0 L ∧ (h = h0)
theorem ef14_rm14_21 (m : MethodId) (a1c : Addr) : entryFrame m #[(.ref a1c), (.int (0 : Int32))] 2 = (mkF m 0 #[.val (.ref a1c), .val (.int 0)] []) := by first | (simp [entryFrame, mkF, argsToLocals, Value.category, maxLocals]; done) | rfl
set_option maxRecDepth 65536 in
set_option maxHeartbeats 40000000 in
theorem rm14_21 (l : Launch) (Z : State) (a0 : Array Value) (hw : ∀ d ∈ tables_1, d.before a0 Z = true) (ws : List Jvm.Cond) (a1c : Addr) (a2c : Addr) (ka2c : ClassId) (x1c : Int32) (x2c : Int32) (a3c : Addr) (h0 : Heap) (n0 : Nat) (P0 : Exa Z h0 a1c "java/lang/String") (P1 : Fld Z h0 a1c "java/lang/String" "coder" "B" (.int (0 : Int32))) (P2 : Fld Z h0 a1c "java/lang/String" "value" "[B" (.ref a2c)) (P3 : Arv Z h0 a2c ka2c .byte (1 : Int32) [(.int x1c)] (.int (0 : Int32))) (P4 : Sta Z h0 "java/lang/String" "COMPACT_STRINGS" "Z" (.int x2c)) (P5 : Sta Z h0 "jdk/internal/util/Preconditions" "SIOOBE_FORMATTER" "Ljava/util/function/BiFunction;" (.ref a3c))   (u0 : ¬ (x2c = (0 : Int32)))   :
    MetFree l Y14 (head1 (Jvm.Cond.code Y14 jdk_42_method_56_code 2 (some .char) :: ws) ({ frames := 3, cells := 0, slots := 0, locals := 40 } : Room)) (fun a U => a = #[(.ref a1c), (.int (0 : Int32))] ∧ Z.Warmed39 U.vm ∧ U.heap = h0) (fun _ _ _ _ _ => True) (fun _ U o U' => ∃ v L, o = .returned v ∧ (Q14_21 Z a1c a2c ka2c x1c x2c a3c h0 n0) v U'.heap L ∧ FrameEnd U o U' L 0 0) := by
 refine MetFree.of_bodySF (plainFor_of_name pn_java_lang_String) hisR ?_
 intro p e s m args below meth c s₁ Bd hml0 hP hK
 obtain ⟨rfl, hZ, hh⟩ := hP
 have hx := Bd.exec
 have hby := Bd.bytes
 have hml : c.maxLocals = 2 := hml0
 have hown : s.vm.findClass "java/lang/String" = some m.cls := findClass_of_methodNamed Bd.named
 have hnm := (name_of_methodNamed Bd.named Bd.method).1
 have X0 : Stand p l e ({ frames := 3, cells := 0, slots := 0, locals := 40 } : Room) s m #[(.ref a1c), (.int (0 : Int32))] below meth c s₁ [] 0 0 := Stand.of_body Bd
 have e0 : s₁.heap = h0 := by rw [← hh, Bd.state]; rfl
 have N0 := Fr.nil n0
 refine GoW.mk ?_
 refine GoW.st (fun t k => castTop (ef14_rm14_21 m a1c) k) ?_
 show GoW p e below s (Q14_21 Z a1c a2c ka2c x1c x2c a3c h0 n0) 0 0 (s₁.setTop (mkF m 0 #[.val (.ref a1c), .val (.int 0)] []))
 refine GoW.sg (mkF m 1 #[.val (.ref a1c), .val (.int 0)] [(.ref a1c)]) (fun t k => XS.aloadN X0.here hx rfl (hb hby d14_0) rfl rfl k) ?_
 obtain ⟨cq154, kq154, q154a, q154b, q154c⟩ := isOf hZ e0 P0
 obtain ⟨_, _, ⟨T154, L154, k154, n154⟩, -, X154, ⟨Lc154, hQ154, l154, y154, z154⟩, st154⟩ := X0.virtualBack hx (y := Y15) (z := Y15) hown (mvT hZ (ww hw 76 rfl)) (mvT hZ (ww hw 77 rfl)) (notFace_of_selects (args := #[]) (mvT hZ (ww hw 79 rfl))) (mvT hZ (ww hw 79 rfl)) (mvT hZ (ww hw 78 rfl)) (by decide) (backOf (W := 0) (rm15_13 l Z a0 hw [] a1c x2c h0 n0  P1 P4   u0 ) hZ (ww hw 80 rfl) (ww hw 7 rfl) (by decide) (by decide)) q154a q154c (g := (mkF m 1 #[.val (.ref a1c), .val (.int 0)] [(.ref a1c)])) rfl (by rw [hml]; rfl) (Steps.refl _) (argsL := []) (rest := []) (lenOf pd_2829Z rfl) rfl (by show 2 * 0 + _ ≤ _; exact Nat.le_of_eq rfl) (hb hby d14_1) (fun _ _ => ⟨rfl, e0, (by decide : 0 + 0 ≤ _), (by decide : 0 + 0 ≤ _)⟩)
 dsimp only [Pt.U, Pt.locs, Pt.cells, Pt.slots] at X154 l154 y154 z154 st154 hQ154
 subst l154 y154 z154
 obtain ⟨rfl, N154q, e154⟩ := hQ154
 have N154 := Fr.app N0 N154q
 refine GoW.sg (mkF m 4 #[.val (.ref a1c), .val (.int 0)] [(.int 1)]) (fun t k => st154.trans k) ?_
 refine GoW.sg (mkF m 7 #[.val (.ref a1c), .val (.int 0)] []) (fun t k => XS.ifNo X154.here hx rfl (hb hby d14_4) rfl (by decide) k) ?_
 refine GoW.sg (mkF m 8 #[.val (.ref a1c), .val (.int 0)] [(.ref a1c)]) (fun t k => XS.aloadN X154.here hx rfl (hb hby d14_7) rfl rfl k) ?_
 obtain ⟨T155, X155, e155, st155⟩ := getF X154 hx hZ hown (host := "") (Or.inl (ww hw 33 rfl)) Via.refl e154 P2 (g := (mkF m 8 #[.val (.ref a1c), .val (.int 0)] [(.ref a1c)])) rfl rfl (hb hby d14_8)
 refine GoW.sg (mkF m 11 #[.val (.ref a1c), .val (.int 0)] [(.ref a2c)]) (fun t k => st155 t k) ?_
 refine GoW.sg (mkF m 12 #[.val (.ref a1c), .val (.int 0)] [(.int 0), (.ref a2c)]) (fun t k => XS.iloadN X155.here hx rfl (hb hby d14_11) rfl k) ?_
 obtain ⟨_, T156, L156, X156, hQ156, st156⟩ := own_callS X155 hx hZ hown (y := Y16) (ww hw 81 rfl) (ww hw 82 rfl) (ww hw 83 rfl) (ww hw 84 rfl) (by decide) 0 (rm16_20 l Z a0 hw [] a2c ka2c x1c a3c h0 n0  P3 P5    ) (by decide) (by decide) e155 (by decide) (by decide) (g := (mkF m 12 #[.val (.ref a1c), .val (.int 0)] [(.int 0), (.ref a2c)])) rfl (by rw [hml]; rfl) (argsL := [(.ref a2c), (.int (0 : Int32))]) (rest := []) (lenOf pd_285bBI29C rfl) rfl (by show 2 * 0 + _ ≤ _; exact Nat.le_of_eq rfl) (hb hby d14_12)
 obtain ⟨rfl, N156q, e156⟩ := hQ156
 have N156 := Fr.app N154 N156q
 refine GoW.sg (mkF m 15 #[.val (.ref a1c), .val (.int 0)] [(.int (nar .char (x1c &&& (255 : Int32)).toUInt32.toUInt16.toUInt32.toInt32))]) (fun t k => st156 t k) ?_
 refine GoW.retN X156 hx (t := .char) Bd.returns (by simp) (hb hby d14_15) Bd.notSynchronized ?_ (by decide) (by decide)
 rw [e156]
 exact ⟨rfl, N156, rfl⟩
def Q6_22 (Z : State) (a1c : Addr) (a2c : Addr) (ka2c : ClassId) (ka1c : ClassId) (x1c : Int32) (x2c : Int32) (h0 : Heap) (n0 : Nat) (v : Option Value) (h : Heap) (L : List Loc) : Prop := v = some (.int (2 : Int32)) ∧ Fr n0 L ∧ (Keep h0 h [a2c]) ∧ (Arv Z h a2c ka2c .byte (2 : Int32) [(.int (lat8 x1c)), (.int (lat8 x2c))] (.int (0 : Int32)))
theorem ef6_rm6_22 (m : MethodId) (a1c : Addr) (a2c : Addr) : entryFrame m #[(.ref a1c), (.int (0 : Int32)), (.ref a2c), (.int (0 : Int32)), (.int (2 : Int32))] 7 = (mkF m 0 #[.val (.ref a1c), .val (.int 0), .val (.ref a2c), .val (.int 0), .val (.int 2), .unset, .unset] []) := by first | (simp [entryFrame, mkF, argsToLocals, Value.category, maxLocals]; done) | rfl
set_option maxRecDepth 65536 in
set_option maxHeartbeats 40000000 in
theorem rm6_22 (l : Launch) (Z : State) (a0 : Array Value) (hw : ∀ d ∈ tables_1, d.before a0 Z = true) (ws : List Jvm.Cond) (a1c : Addr) (a2c : Addr) (ka2c : ClassId) (ka1c : ClassId) (x1c : Int32) (x2c : Int32) (h0 : Heap) (n0 : Nat) (P0 : Arv Z h0 a2c ka2c .byte (2 : Int32) [(.int (0 : Int32)), (.int (0 : Int32))] (.int (0 : Int32))) (P1 : Arv Z h0 a1c ka1c .char (2 : Int32) [(.int x1c), (.int x2c)] (.int (0 : Int32))) (g_a2c : n0 ≤ a2c) (ne_a1c_a2c : a1c ≠ a2c) (u0 : ¬ ((255 : Int32) < x1c)) (u1 : ¬ ((255 : Int32) < x2c))   :
    MetFree l Y6 (head1 (Jvm.Cond.code Y6 jdk_52_method_21_code 7 (some .int) :: ws) ({ frames := 0, cells := 0, slots := 0, locals := 0 } : Room)) (fun a U => a = #[(.ref a1c), (.int (0 : Int32)), (.ref a2c), (.int (0 : Int32)), (.int (2 : Int32))] ∧ Z.Warmed39 U.vm ∧ U.heap = h0) (fun _ _ _ _ _ => True) (fun _ U o U' => ∃ v L, o = .returned v ∧ (Q6_22 Z a1c a2c ka2c ka1c x1c x2c h0 n0) v U'.heap L ∧ FrameEnd U o U' L 0 0) := by
 refine MetFree.of_bodySF (plainFor_of_name pn_java_lang_StringUTF16) hisR ?_
 intro p e s m args below meth c s₁ Bd hml0 hP hK
 obtain ⟨rfl, hZ, hh⟩ := hP
 have hx := Bd.exec
 have hby := Bd.bytes
 have hml : c.maxLocals = 7 := hml0
 have hown : s.vm.findClass "java/lang/StringUTF16" = some m.cls := findClass_of_methodNamed Bd.named
 have hnm := (name_of_methodNamed Bd.named Bd.method).1
 have X0 : Stand p l e ({ frames := 0, cells := 0, slots := 0, locals := 0 } : Room) s m #[(.ref a1c), (.int (0 : Int32)), (.ref a2c), (.int (0 : Int32)), (.int (2 : Int32))] below meth c s₁ [] 0 0 := Stand.of_body Bd
 have e0 : s₁.heap = h0 := by rw [← hh, Bd.state]; rfl
 have N0 := Fr.nil n0
 refine GoW.mk ?_
 refine GoW.st (fun t k => castTop (ef6_rm6_22 m a1c a2c) k) ?_
 show GoW p e below s (Q6_22 Z a1c a2c ka2c ka1c x1c x2c h0 n0) 0 0 (s₁.setTop (mkF m 0 (Sh10 a1c 0 a2c 0 2) []))
 refine GoW.sg (mkF m 1 (Sh10 a1c 0 a2c 0 2) [(.int 0)]) (fun t k => XS.iconst X0.here hx rfl (hb hby d6_0) k) ?_
 refine GoW.sg (mkF m 3 (Sh11 a1c 0 a2c 0 2 0) []) (fun t k => XS.istore X0.here hx rfl (hb hby d6_1) rfl (l' := (Sh11 a1c 0 a2c 0 2 0)) rfl k) ?_
 refine GoW.sg (mkF m 5 (Sh11 a1c 0 a2c 0 2 0) [(.int 0)]) (fun t k => XS.iload X0.here hx rfl (hb hby d6_3) rfl k) ?_
 refine GoW.sg (mkF m 7 (Sh11 a1c 0 a2c 0 2 0) [(.int 2), (.int 0)]) (fun t k => XS.iload X0.here hx rfl (hb hby d6_5) rfl k) ?_
 refine GoW.sg (mkF m 10 (Sh11 a1c 0 a2c 0 2 0) []) (fun t k => XS.icmpNo X0.here hx rfl (hb hby d6_7) rfl (by decide) k) ?_
 refine GoW.sg (mkF m 11 (Sh11 a1c 0 a2c 0 2 0) [(.ref a1c)]) (fun t k => XS.aloadN X0.here hx rfl (hb hby d6_10) rfl rfl k) ?_
 refine GoW.sg (mkF m 12 (Sh11 a1c 0 a2c 0 2 0) [(.int 0), (.ref a1c)]) (fun t k => XS.iloadN X0.here hx rfl (hb hby d6_11) rfl k) ?_
 obtain ⟨cl184, Ar184, q184, Sz184, Nn184, Hh184, Gg184⟩ := id P1
 have hin184 : ¬ ((0 : Int32) < 0 ∨ cl184.slots.size ≤ ((0 : Int32)).toNatClampNeg) := inb_of Sz184 ⟨by decide, by decide⟩
 refine GoW.sg (mkF m 13 (Sh11 a1c 0 a2c 0 2 0) [(.int x1c)]) (fun t k => X0.caload hx (j := (0 : Int32)) (v := (.int x1c)) (hq_ e0 Ar184.1) (State.isArrayOf_alike hZ.alike Ar184.2.1) Ar184.2.2 hin184 (Hh184.at hin184 rfl) (g := (mkF m 12 (Sh11 a1c 0 a2c 0 2 0) [(.int 0), (.ref a1c)])) rfl rfl (hb hby d6_12) t k) ?_
 refine GoW.sg (mkF m 15 (Sh12 a1c 0 a2c 0 2 0 x1c) []) (fun t k => XS.istore X0.here hx rfl (hb hby d6_13) rfl (l' := (Sh12 a1c 0 a2c 0 2 0 x1c)) rfl k) ?_
 refine GoW.sg (mkF m 17 (Sh12 a1c 0 a2c 0 2 0 x1c) [(.int x1c)]) (fun t k => XS.iload X0.here hx rfl (hb hby d6_15) rfl k) ?_
 refine GoW.sg (mkF m 20 (Sh12 a1c 0 a2c 0 2 0 x1c) [(.int 255), (.int x1c)]) (fun t k => XS.sipush X0.here hx rfl (hb hby d6_17) k) ?_
 refine GoW.sg (mkF m 26 (Sh12 a1c 0 a2c 0 2 0 x1c) []) (fun t k => XS.icmpYes X0.here hx rfl (pc0 := 20) (pc' := 26) rfl (hb hby d6_20) rfl (flt u0).2.2.2 (by decide) (by decide) k) ?_
 refine GoW.sg (mkF m 27 (Sh12 a1c 0 a2c 0 2 0 x1c) [(.ref a2c)]) (fun t k => XS.aloadN X0.here hx rfl (hb hby d6_26) rfl rfl k) ?_
 refine GoW.sg (mkF m 28 (Sh12 a1c 0 a2c 0 2 0 x1c) [(.int 0), (.ref a2c)]) (fun t k => XS.iloadN X0.here hx rfl (hb hby d6_27) rfl k) ?_
 refine GoW.sg (mkF m 30 (Sh12 a1c 0 a2c 0 2 0 x1c) [(.int x1c), (.int 0), (.ref a2c)]) (fun t k => XS.iload X0.here hx rfl (hb hby d6_28) rfl k) ?_
 refine GoW.sg (mkF m 31 (Sh12 a1c 0 a2c 0 2 0 x1c) [(.int x1c.toInt8.toInt32), (.int 0), (.ref a2c)]) (fun t k => XS.i2b X0.here hx rfl (hb hby d6_30) rfl k) ?_
 obtain ⟨cl185, Ar185, q185, Sz185, Nn185, Hh185, Gg185⟩ := P0
 have hin185 : ¬ ((0 : Int32) < 0 ∨ cl185.slots.size ≤ ((0 : Int32)).toNatClampNeg) := inb_of Sz185 ⟨by decide, by decide⟩
 obtain ⟨T185, h185, X185, e185, W185, st185⟩ := stB X0 hx hZ e0 Ar185 (j := (0 : Int32)) hin185 (g := (mkF m 31 (Sh12 a1c 0 a2c 0 2 0 x1c) [(.int x1c.toInt8.toInt32), (.int 0), (.ref a2c)])) rfl rfl (hb hby d6_31)
 have f185_1 := P1.other W185 ne_a1c_a2c
 have f185_2 := (Keep.refl h0 [a2c]).wr W185 (Or.inl (List.mem_of_getElem? (i := 0) rfl))
 have V185 : Arv Z h185 a2c ka2c .byte (2 : Int32) [(.int (lat8 x1c)), (.int (0 : Int32))] (.int (0 : Int32)) := Arv.set Ar185 q185 Sz185 Nn185 Hh185 Gg185 (fits_nar_byte _) W185 0 rfl (Nat.le_of_ble_eq_true rfl)
 have N185 := Fr.snoc X185 N0 g_a2c
 refine GoW.sg (mkF m 32 (Sh12 a1c 0 a2c 0 2 0 x1c) []) (fun t k => st185 t k) ?_
 refine GoW.sg (mkF m 35 (Sh12 a1c 1 a2c 0 2 0 x1c) []) (fun t k => XS.iinc X185.here hx rfl (hb hby d6_32) rfl (l' := (Sh12 a1c 1 a2c 0 2 0 x1c)) rfl k) ?_
 refine GoW.sg (mkF m 38 (Sh12 a1c 1 a2c 1 2 0 x1c) []) (fun t k => XS.iinc X185.here hx rfl (hb hby d6_35) rfl (l' := (Sh12 a1c 1 a2c 1 2 0 x1c)) rfl k) ?_
 refine GoW.sg (mkF m 41 (Sh12 a1c 1 a2c 1 2 1 x1c) []) (fun t k => XS.iinc X185.here hx rfl (hb hby d6_38) rfl (l' := (Sh12 a1c 1 a2c 1 2 1 x1c)) rfl k) ?_
 refine GoW.sg (mkF m 3 (Sh12 a1c 1 a2c 1 2 1 x1c) []) (fun t k => XS.goto X185.here hx rfl (pc0 := 41) (pc' := 3) rfl (hb hby d6_41) (by decide) (by decide) k) ?_
 refine GoW.sg (mkF m 5 (Sh12 a1c 1 a2c 1 2 1 x1c) [(.int 1)]) (fun t k => XS.iload X185.here hx rfl (hb hby d6_3) rfl k) ?_
 refine GoW.sg (mkF m 7 (Sh12 a1c 1 a2c 1 2 1 x1c) [(.int 2), (.int 1)]) (fun t k => XS.iload X185.here hx rfl (hb hby d6_5) rfl k) ?_
 refine GoW.sg (mkF m 10 (Sh12 a1c 1 a2c 1 2 1 x1c) []) (fun t k => XS.icmpNo X185.here hx rfl (hb hby d6_7) rfl (by decide) k) ?_
 refine GoW.sg (mkF m 11 (Sh12 a1c 1 a2c 1 2 1 x1c) [(.ref a1c)]) (fun t k => XS.aloadN X185.here hx rfl (hb hby d6_10) rfl rfl k) ?_
 refine GoW.sg (mkF m 12 (Sh12 a1c 1 a2c 1 2 1 x1c) [(.int 1), (.ref a1c)]) (fun t k => XS.iloadN X185.here hx rfl (hb hby d6_11) rfl k) ?_
 obtain ⟨cl186, Ar186, q186, Sz186, Nn186, Hh186, Gg186⟩ := id f185_1
 have hin186 : ¬ ((1 : Int32) < 0 ∨ cl186.slots.size ≤ ((1 : Int32)).toNatClampNeg) := inb_of Sz186 ⟨by decide, by decide⟩
 refine GoW.sg (mkF m 13 (Sh12 a1c 1 a2c 1 2 1 x1c) [(.int x2c)]) (fun t k => X185.caload hx (j := (1 : Int32)) (v := (.int x2c)) (hq_ e185 Ar186.1) (State.isArrayOf_alike hZ.alike Ar186.2.1) Ar186.2.2 hin186 (Hh186.at hin186 rfl) (g := (mkF m 12 (Sh12 a1c 1 a2c 1 2 1 x1c) [(.int 1), (.ref a1c)])) rfl rfl (hb hby d6_12) t k) ?_
 refine GoW.sg (mkF m 15 (Sh12 a1c 1 a2c 1 2 1 x2c) []) (fun t k => XS.istore X185.here hx rfl (hb hby d6_13) rfl (l' := (Sh12 a1c 1 a2c 1 2 1 x2c)) rfl k) ?_
 refine GoW.sg (mkF m 17 (Sh12 a1c 1 a2c 1 2 1 x2c) [(.int x2c)]) (fun t k => XS.iload X185.here hx rfl (hb hby d6_15) rfl k) ?_
 refine GoW.sg (mkF m 20 (Sh12 a1c 1 a2c 1 2 1 x2c) [(.int 255), (.int x2c)]) (fun t k => XS.sipush X185.here hx rfl (hb hby d6_17) k) ?_
 refine GoW.sg (mkF m 26 (Sh12 a1c 1 a2c 1 2 1 x2c) []) (fun t k => XS.icmpYes X185.here hx rfl (pc0 := 20) (pc' := 26) rfl (hb hby d6_20) rfl (flt u1).2.2.2 (by decide) (by decide) k) ?_
 refine GoW.sg (mkF m 27 (Sh12 a1c 1 a2c 1 2 1 x2c) [(.ref a2c)]) (fun t k => XS.aloadN X185.here hx rfl (hb hby d6_26) rfl rfl k) ?_
 refine GoW.sg (mkF m 28 (Sh12 a1c 1 a2c 1 2 1 x2c) [(.int 1), (.ref a2c)]) (fun t k => XS.iloadN X185.here hx rfl (hb hby d6_27) rfl k) ?_
 refine GoW.sg (mkF m 30 (Sh12 a1c 1 a2c 1 2 1 x2c) [(.int x2c), (.int 1), (.ref a2c)]) (fun t k => XS.iload X185.here hx rfl (hb hby d6_28) rfl k) ?_
 refine GoW.sg (mkF m 31 (Sh12 a1c 1 a2c 1 2 1 x2c) [(.int x2c.toInt8.toInt32), (.int 1), (.ref a2c)]) (fun t k => XS.i2b X185.here hx rfl (hb hby d6_30) rfl k) ?_
 obtain ⟨cl187, Ar187, q187, Sz187, Nn187, Hh187, Gg187⟩ := V185
 have hin187 : ¬ ((1 : Int32) < 0 ∨ cl187.slots.size ≤ ((1 : Int32)).toNatClampNeg) := inb_of Sz187 ⟨by decide, by decide⟩
 obtain ⟨T187, h187, X187, e187, W187, st187⟩ := stB X185 hx hZ e185 Ar187 (j := (1 : Int32)) hin187 (g := (mkF m 31 (Sh12 a1c 1 a2c 1 2 1 x2c) [(.int x2c.toInt8.toInt32), (.int 1), (.ref a2c)])) rfl rfl (hb hby d6_31)
 have f187_4 := f185_2.wr W187 (Or.inl (List.mem_of_getElem? (i := 0) rfl))
 have V187 : Arv Z h187 a2c ka2c .byte (2 : Int32) [(.int (lat8 x1c)), (.int (lat8 x2c))] (.int (0 : Int32)) := Arv.set Ar187 q187 Sz187 Nn187 Hh187 Gg187 (fits_nar_byte _) W187 1 rfl (Nat.le_of_ble_eq_true rfl)
 have N187 := Fr.snoc X187 N185 g_a2c
 refine GoW.sg (mkF m 32 (Sh12 a1c 1 a2c 1 2 1 x2c) []) (fun t k => st187 t k) ?_
 refine GoW.sg (mkF m 35 (Sh12 a1c 2 a2c 1 2 1 x2c) []) (fun t k => XS.iinc X187.here hx rfl (hb hby d6_32) rfl (l' := (Sh12 a1c 2 a2c 1 2 1 x2c)) rfl k) ?_
 refine GoW.sg (mkF m 38 (Sh12 a1c 2 a2c 2 2 1 x2c) []) (fun t k => XS.iinc X187.here hx rfl (hb hby d6_35) rfl (l' := (Sh12 a1c 2 a2c 2 2 1 x2c)) rfl k) ?_
 refine GoW.sg (mkF m 41 (Sh12 a1c 2 a2c 2 2 2 x2c) []) (fun t k => XS.iinc X187.here hx rfl (hb hby d6_38) rfl (l' := (Sh12 a1c 2 a2c 2 2 2 x2c)) rfl k) ?_
 refine GoW.sg (mkF m 3 (Sh12 a1c 2 a2c 2 2 2 x2c) []) (fun t k => XS.goto X187.here hx rfl (pc0 := 41) (pc' := 3) rfl (hb hby d6_41) (by decide) (by decide) k) ?_
 refine GoW.sg (mkF m 5 (Sh12 a1c 2 a2c 2 2 2 x2c) [(.int 2)]) (fun t k => XS.iload X187.here hx rfl (hb hby d6_3) rfl k) ?_
 refine GoW.sg (mkF m 7 (Sh12 a1c 2 a2c 2 2 2 x2c) [(.int 2), (.int 2)]) (fun t k => XS.iload X187.here hx rfl (hb hby d6_5) rfl k) ?_
 refine GoW.sg (mkF m 44 (Sh12 a1c 2 a2c 2 2 2 x2c) []) (fun t k => XS.icmpYes X187.here hx rfl (pc0 := 7) (pc' := 44) rfl (hb hby d6_7) rfl (by decide) (by decide) (by decide) k) ?_
 refine GoW.sg (mkF m 46 (Sh12 a1c 2 a2c 2 2 2 x2c) [(.int 2)]) (fun t k => XS.iload X187.here hx rfl (hb hby d6_44) rfl k) ?_
 refine GoW.retI X187 hx Bd.returns (hb hby d6_46) Bd.notSynchronized ?_ (by decide) (by decide)
 rw [e187]
 exact ⟨rfl, N187, f187_4, V187⟩
def Q5_23 (Z : State) (a1c : Addr) (ka1c : ClassId) (x1c : Int32) (x2c : Int32) (h0 : Heap) (n0 : Nat) (v : Option Value) (h : Heap) (L : List Loc) : Prop := ∃ e0 : Addr, ∃ ke0 : ClassId, v = some (.ref e0) ∧ Fr n0 L ∧ (Keep h0 h []) ∧ (Arv Z h e0 ke0 .byte (2 : Int32) [(.int (lat8 x1c)), (.int (lat8 x2c))] (.int (0 : Int32))) ∧ (h0.size ≤ e0)
theorem ef5_rm5_23 (m : MethodId) (a1c : Addr) : entryFrame m #[(.ref a1c), (.int (0 : Int32)), (.int (2 : Int32))] 6 = (mkF m 0 #[.val (.ref a1c), .val (.int 0), .val (.int 2), .unset, .unset, .unset] []) := by first | (simp [entryFrame, mkF, argsToLocals, Value.category, maxLocals]; done) | rfl
set_option maxRecDepth 65536 in
set_option maxHeartbeats 40000000 in
theorem rm5_23 (l : Launch) (Z : State) (a0 : Array Value) (hw : ∀ d ∈ tables_1, d.before a0 Z = true) (ws : List Jvm.Cond) (a1c : Addr) (ka1c : ClassId) (x1c : Int32) (x2c : Int32) (h0 : Heap) (n0 : Nat) (Z0 : n0 ≤ h0.size) (P0 : Arv Z h0 a1c ka1c .char (2 : Int32) [(.int x1c), (.int x2c)] (.int (0 : Int32)))   (u0 : ¬ ((255 : Int32) < x1c)) (u1 : ¬ ((255 : Int32) < x2c))   :
    MetFree l Y5 (head1 (Jvm.Cond.code Y5 jdk_52_method_16_code 6 (some (.array .byte)) :: ws) ({ frames := 1, cells := 1, slots := 2, locals := 18 } : Room)) (fun a U => a = #[(.ref a1c), (.int (0 : Int32)), (.int (2 : Int32))] ∧ Z.Warmed39 U.vm ∧ U.heap = h0) (fun _ _ _ _ _ => True) (fun _ U o U' => ∃ v L, o = .returned v ∧ (Q5_23 Z a1c ka1c x1c x2c h0 n0) v U'.heap L ∧ FrameEnd U o U' L 1 2) := by
 refine MetFree.of_bodySF (plainFor_of_name pn_java_lang_StringUTF16) hisR ?_
 intro p e s m args below meth c s₁ Bd hml0 hP hK
 obtain ⟨rfl, hZ, hh⟩ := hP
 have hx := Bd.exec
 have hby := Bd.bytes
 have hml : c.maxLocals = 6 := hml0
 have hown : s.vm.findClass "java/lang/StringUTF16" = some m.cls := findClass_of_methodNamed Bd.named
 have hnm := (name_of_methodNamed Bd.named Bd.method).1
 have X0 : Stand p l e ({ frames := 1, cells := 1, slots := 2, locals := 18 } : Room) s m #[(.ref a1c), (.int (0 : Int32)), (.int (2 : Int32))] below meth c s₁ [] 0 0 := Stand.of_body Bd
 have e0 : s₁.heap = h0 := by rw [← hh, Bd.state]; rfl
 have N0 := Fr.nil n0
 refine GoW.mk ?_
 refine GoW.st (fun t k => castTop (ef5_rm5_23 m a1c) k) ?_
 show GoW p e below s (Q5_23 Z a1c ka1c x1c x2c h0 n0) 1 2 (s₁.setTop (mkF m 0 (Sh8 a1c 0 2) []))
 refine GoW.sg (mkF m 1 (Sh8 a1c 0 2) [(.int 2)]) (fun t k => XS.iloadN X0.here hx rfl (hb hby d5_0) rfl k) ?_
 obtain ⟨T189, h189, k189, X189, e189, E189, A189, st189⟩ := newP X0 hx hZ (ww hw 24 rfl) e0 (g := (mkF m 1 (Sh8 a1c 0 2) [(.int 2)])) rfl (hb hby d5_1) rfl (by decide) (cap := 2) (by decide) (by decide) (by decide) (by decide)
 obtain ⟨b189, g189⟩ : ∃ z, z = h0.size := ⟨_, rfl⟩
 rw [← g189] at A189 st189
 have g_b189 : n0 ≤ b189 := Nat.le_trans Z0 (Nat.le_of_eq g189.symm)
 have sz_b189 : h0.size ≤ b189 := Nat.le_trans (Keep.refl h0 []).1 (Nat.le_of_eq g189.symm)
 have ne_a1c_b189 : a1c ≠ b189 := Nat.ne_of_lt (Nat.lt_of_lt_of_eq P0.lt g189.symm)
 have f189_1 := P0.ext E189
 have f189_2 := (Keep.refl h0 []).ext E189
 have V189 : Arv Z h189 b189 k189 .byte (2 : Int32) [(.int (0 : Int32)), (.int (0 : Int32))] (.int (0 : Int32)) := (Arv.new A189 (by decide)).pad (pad_rep [] (.int (0 : Int32)) 2)
 refine GoW.sg (mkF m 3 (Sh8 a1c 0 2) [(.ref b189)]) (fun t k => st189 t k) ?_
 refine GoW.sg (mkF m 4 (Sh9 a1c 0 2 b189) []) (fun t k => XS.astoreN X189.here hx rfl (hb hby d5_3) rfl rfl (l' := (Sh9 a1c 0 2 b189)) rfl k) ?_
 refine GoW.sg (mkF m 5 (Sh9 a1c 0 2 b189) [(.ref a1c)]) (fun t k => XS.aloadN X189.here hx rfl (hb hby d5_4) rfl rfl k) ?_
 refine GoW.sg (mkF m 6 (Sh9 a1c 0 2 b189) [(.int 0), (.ref a1c)]) (fun t k => XS.iloadN X189.here hx rfl (hb hby d5_5) rfl k) ?_
 refine GoW.sg (mkF m 7 (Sh9 a1c 0 2 b189) [(.ref b189), (.int 0), (.ref a1c)]) (fun t k => XS.aloadN X189.here hx rfl (hb hby d5_6) rfl rfl k) ?_
 refine GoW.sg (mkF m 8 (Sh9 a1c 0 2 b189) [(.int 0), (.ref b189), (.int 0), (.ref a1c)]) (fun t k => XS.iconst X189.here hx rfl (hb hby d5_7) k) ?_
 refine GoW.sg (mkF m 9 (Sh9 a1c 0 2 b189) [(.int 2), (.int 0), (.ref b189), (.int 0), (.ref a1c)]) (fun t k => XS.iloadN X189.here hx rfl (hb hby d5_8) rfl k) ?_
 obtain ⟨_, T194, L194, X194, hQ194, st194⟩ := own_callS X189 hx hZ hown (y := Y6) (ww hw 25 rfl) (ww hw 26 rfl) (ww hw 22 rfl) (ww hw 27 rfl) (by decide) 0 (rm6_22 l Z a0 hw [] a1c b189 k189 ka1c x1c x2c h189 n0  V189 f189_1 g_b189 ne_a1c_b189 u0 u1 ) (by decide) (by decide) e189 (by decide) (by decide) (g := (mkF m 9 (Sh9 a1c 0 2 b189) [(.int 2), (.int 0), (.ref b189), (.int 0), (.ref a1c)])) rfl (by rw [hml]; rfl) (argsL := [(.ref a1c), (.int (0 : Int32)), (.ref b189), (.int (0 : Int32)), (.int (2 : Int32))]) (rest := []) (lenOf pd_285bCI5bBII29I rfl) rfl (by show 2 * 0 + _ ≤ _; exact Nat.le_of_eq rfl) (hb hby d5_9)
 obtain ⟨rfl, N194q, K194, p194_0⟩ := hQ194
 have N194 := Fr.app N0 N194q
 have f194_5 := f189_2.trans K194 (allS (Or.inr sz_b189) all0)
 refine GoW.sg (mkF m 12 (Sh9 a1c 0 2 b189) [(.int 2)]) (fun t k => st194 t k) ?_
 refine GoW.sg (mkF m 14 (Sh13 a1c 0 2 b189 2) []) (fun t k => XS.istore X194.here hx rfl (hb hby d5_12) rfl (l' := (Sh13 a1c 0 2 b189 2)) rfl k) ?_
 refine GoW.sg (mkF m 16 (Sh13 a1c 0 2 b189 2) [(.int 2)]) (fun t k => XS.iload X194.here hx rfl (hb hby d5_14) rfl k) ?_
 refine GoW.sg (mkF m 17 (Sh13 a1c 0 2 b189 2) [(.int 2), (.int 2)]) (fun t k => XS.iloadN X194.here hx rfl (hb hby d5_16) rfl k) ?_
 refine GoW.sg (mkF m 57 (Sh13 a1c 0 2 b189 2) []) (fun t k => XS.icmpYes X194.here hx rfl (pc0 := 17) (pc' := 57) rfl (hb hby d5_17) rfl (by decide) (by decide) (by decide) k) ?_
 refine GoW.sg (mkF m 58 (Sh13 a1c 0 2 b189 2) [(.ref b189)]) (fun t k => XS.aloadN X194.here hx rfl (hb hby d5_57) rfl rfl k) ?_
 refine GoW.retA X194 hx Bd.returns rfl rfl rfl (hb hby d5_58) Bd.notSynchronized ?_ (by decide) (by decide)
 exact ⟨b189, k189, rfl, N194, f194_5, p194_0, sz_b189⟩
def Q7_24 (Z : State) (a1c : Addr) (ka1c : ClassId) (x1c : Int32) (x2c : Int32) (h0 : Heap) (n0 : Nat) (v : Option Value) (h : Heap) (L : List Loc) : Prop := v = some (.int (0 : Int32)) ∧ Fr n0 L ∧ (h = h0)
theorem ef7_rm7_24 (m : MethodId) (a1c : Addr) : entryFrame m #[(.ref a1c), (.int (2 : Int32))] 2 = (mkF m 0 #[.val (.ref a1c), .val (.int 2)] []) := by first | (simp [entryFrame, mkF, argsToLocals, Value.category, maxLocals]; done) | rfl
set_option maxRecDepth 65536 in
set_option maxHeartbeats 40000000 in
theorem rm7_24 (l : Launch) (Z : State) (a0 : Array Value) (hw : ∀ d ∈ tables_1, d.before a0 Z = true) (ws : List Jvm.Cond) (a1c : Addr) (ka1c : ClassId) (x1c : Int32) (x2c : Int32) (h0 : Heap) (n0 : Nat) (P0 : Arv Z h0 a1c ka1c .byte (2 : Int32) [(.int x1c), (.int x2c)] (.int (0 : Int32)))      :
    MetFree l Y7 (head1 (Jvm.Cond.code Y7 jdk_52_method_15_code 2 (some .byte) :: ws) ({ frames := 0, cells := 0, slots := 0, locals := 0 } : Room)) (fun a U => a = #[(.ref a1c), (.int (2 : Int32))] ∧ Z.Warmed39 U.vm ∧ U.heap = h0) (fun _ _ _ _ _ => True) (fun _ U o U' => ∃ v L, o = .returned v ∧ (Q7_24 Z a1c ka1c x1c x2c h0 n0) v U'.heap L ∧ FrameEnd U o U' L 0 0) := by
 refine MetFree.of_bodySF (plainFor_of_name pn_java_lang_StringUTF16) hisR ?_
 intro p e s m args below meth c s₁ Bd hml0 hP hK
 obtain ⟨rfl, hZ, hh⟩ := hP
 have hx := Bd.exec
 have hby := Bd.bytes
 have hml : c.maxLocals = 2 := hml0
 have hown : s.vm.findClass "java/lang/StringUTF16" = some m.cls := findClass_of_methodNamed Bd.named
 have hnm := (name_of_methodNamed Bd.named Bd.method).1
 have X0 : Stand p l e ({ frames := 0, cells := 0, slots := 0, locals := 0 } : Room) s m #[(.ref a1c), (.int (2 : Int32))] below meth c s₁ [] 0 0 := Stand.of_body Bd
 have e0 : s₁.heap = h0 := by rw [← hh, Bd.state]; rfl
 have N0 := Fr.nil n0
 refine GoW.mk ?_
 refine GoW.st (fun t k => castTop (ef7_rm7_24 m a1c) k) ?_
 show GoW p e below s (Q7_24 Z a1c ka1c x1c x2c h0 n0) 0 0 (s₁.setTop (mkF m 0 #[.val (.ref a1c), .val (.int 2)] []))
 refine GoW.sg (mkF m 1 #[.val (.ref a1c), .val (.int 2)] [(.int 2)]) (fun t k => XS.iloadN X0.here hx rfl (hb hby d7_0) rfl k) ?_
 refine GoW.sg (mkF m 2 #[.val (.ref a1c), .val (.int 2)] [(.ref a1c), (.int 2)]) (fun t k => XS.aloadN X0.here hx rfl (hb hby d7_1) rfl rfl k) ?_
 obtain ⟨cl197, Ar197, q197, Sz197, Nn197, Hh197, Gg197⟩ := id P0
 have st197 := X0.arraylength hx (hq_ e0 Ar197.1) (State.isArrayOf_alike hZ.alike Ar197.2.1) (g := (mkF m 2 #[.val (.ref a1c), .val (.int 2)] [(.ref a1c), (.int 2)])) rfl rfl (hb hby d7_2)
 rw [len_of Sz197 Nn197] at st197
 refine GoW.sg (mkF m 3 #[.val (.ref a1c), .val (.int 2)] [(.int 2), (.int 2)]) (fun t k => st197 t k) ?_
 refine GoW.st (fun t k => XS.isub X0.here hx rfl (hb hby d7_3) rfl k) ?_
 rw [show ((2 : Int32) - (2 : Int32)) = (0 : Int32) from by decide]
 show GoW p e below s (Q7_24 Z a1c ka1c x1c x2c h0 n0) 0 0 (s₁.setTop (mkF m 4 #[.val (.ref a1c), .val (.int 2)] [(.int 0)]))
 refine GoW.sg (mkF m 6 #[.val (.ref a1c), .val (.int 2)] [(.int 31), (.int 0)]) (fun t k => XS.bipush X0.here hx rfl (hb hby d7_4) k) ?_
 refine GoW.st (fun t k => XS.iushr X0.here hx rfl (hb hby d7_6) rfl k) ?_
 rw [show ((0 : Int32).toUInt32 >>> ((31 : Int32) &&& 31).toUInt32).toInt32 = (0 : Int32) from by decide]
 show GoW p e below s (Q7_24 Z a1c ka1c x1c x2c h0 n0) 0 0 (s₁.setTop (mkF m 7 #[.val (.ref a1c), .val (.int 2)] [(.int 0)]))
 refine GoW.st (fun t k => XS.i2b X0.here hx rfl (hb hby d7_7) rfl k) ?_
 rw [show (0 : Int32).toInt8.toInt32 = (0 : Int32) from by decide]
 show GoW p e below s (Q7_24 Z a1c ka1c x1c x2c h0 n0) 0 0 (s₁.setTop (mkF m 8 #[.val (.ref a1c), .val (.int 2)] [(.int 0)]))
 refine GoW.retN X0 hx (t := .byte) Bd.returns (by simp) (hb hby d7_8) Bd.notSynchronized ?_ (by decide) (by decide)
 rw [e0]
 exact ⟨rfl, N0, rfl⟩
def Q3_25 (Z : State) (a1c : Addr) (a2c : Addr) (ka2c : ClassId) (x1c : Int32) (x2c : Int32) (x3c : Int32) (h0 : Heap) (n0 : Nat) (v : Option Value) (h : Heap) (L : List Loc) : Prop := ∃ e0 : Addr, ∃ ke0 : ClassId, v = none ∧ Fr n0 L ∧ (Keep h0 h [a1c]) ∧ (Exa Z h a1c "java/lang/String") ∧ (Fld Z h a1c "java/lang/String" "coder" "B" (.int (0 : Int32))) ∧ (Fld Z h a1c "java/lang/String" "value" "[B" (.ref e0)) ∧ (Arv Z h e0 ke0 .byte (2 : Int32) [(.int (lat8 x1c)), (.int (lat8 x2c))] (.int (0 : Int32))) ∧ (h0.size ≤ e0)
theorem ef3_rm3_25 (m : MethodId) (a1c : Addr) (a2c : Addr) : entryFrame m #[(.ref a1c), (.ref a2c), (.int (0 : Int32)), (.int (2 : Int32)), .null] 6 = (mkF m 0 #[.val (.ref a1c), .val (.ref a2c), .val (.int 0), .val (.int 2), .val .null, .unset] []) := by first | (simp [entryFrame, mkF, argsToLocals, Value.category, maxLocals]; done) | rfl
set_option maxRecDepth 65536 in
set_option maxHeartbeats 40000000 in
theorem rm3_25 (l : Launch) (Z : State) (a0 : Array Value) (hw : ∀ d ∈ tables_1, d.before a0 Z = true) (ws : List Jvm.Cond) (a1c : Addr) (a2c : Addr) (ka2c : ClassId) (x1c : Int32) (x2c : Int32) (x3c : Int32) (h0 : Heap) (n0 : Nat) (Z0 : n0 ≤ h0.size) (P0 : Exa Z h0 a1c "java/lang/String") (P1 : Fld Z h0 a1c "java/lang/String" "coder" "B" (.int (0 : Int32))) (P2 : Fld Z h0 a1c "java/lang/String" "value" "[B" .null) (P3 : Arv Z h0 a2c ka2c .char (2 : Int32) [(.int x1c), (.int x2c)] (.int (0 : Int32))) (P4 : Sta Z h0 "java/lang/String" "COMPACT_STRINGS" "Z" (.int x3c)) (g_a1c : n0 ≤ a1c)  (u0 : ¬ (x3c = (0 : Int32))) (u1 : ¬ ((255 : Int32) < x1c)) (u2 : ¬ ((255 : Int32) < x2c))   :
    MetFree l Y3 (head1 (Jvm.Cond.code Y3 jdk_42_method_149_code 6 none :: ws) ({ frames := 2, cells := 1, slots := 2, locals := 35 } : Room)) (fun a U => a = #[(.ref a1c), (.ref a2c), (.int (0 : Int32)), (.int (2 : Int32)), .null] ∧ Z.Warmed39 U.vm ∧ U.heap = h0) (fun _ _ _ _ _ => True) (fun _ U o U' => ∃ v L, o = .returned v ∧ (Q3_25 Z a1c a2c ka2c x1c x2c x3c h0 n0) v U'.heap L ∧ FrameEnd U o U' L 1 2) := by
 refine MetFree.of_bodySF (plainFor_of_name pn_java_lang_String) hisR ?_
 intro p e s m args below meth c s₁ Bd hml0 hP hK
 obtain ⟨rfl, hZ, hh⟩ := hP
 have hx := Bd.exec
 have hby := Bd.bytes
 have hml : c.maxLocals = 6 := hml0
 have hown : s.vm.findClass "java/lang/String" = some m.cls := findClass_of_methodNamed Bd.named
 have hnm := (name_of_methodNamed Bd.named Bd.method).1
 have X0 : Stand p l e ({ frames := 2, cells := 1, slots := 2, locals := 35 } : Room) s m #[(.ref a1c), (.ref a2c), (.int (0 : Int32)), (.int (2 : Int32)), .null] below meth c s₁ [] 0 0 := Stand.of_body Bd
 have e0 : s₁.heap = h0 := by rw [← hh, Bd.state]; rfl
 have N0 := Fr.nil n0
 refine GoW.mk ?_
 refine GoW.st (fun t k => castTop (ef3_rm3_25 m a1c a2c) k) ?_
 show GoW p e below s (Q3_25 Z a1c a2c ka2c x1c x2c x3c h0 n0) 1 2 (s₁.setTop (mkF m 0 (Sh0 a1c a2c 0 2) []))
 refine GoW.sg (mkF m 1 (Sh0 a1c a2c 0 2) [(.ref a1c)]) (fun t k => XS.aloadN X0.here hx rfl (hb hby d3_0) rfl rfl k) ?_
 obtain ⟨T201, X201, e201, st201⟩ := initO X0 hx hZ hown (ww hw 16 rfl) (ww hw 17 rfl) (ww hw 18 rfl) e0 (g := (mkF m 1 (Sh0 a1c a2c 0 2) [(.ref a1c)])) rfl (by rw [hml]; rfl) rfl (hb hby d3_1) (by decide) (W := 0) (by show 2 * 0 + _ ≤ _; exact Nat.le_of_eq rfl) (by decide)
 refine GoW.sg (mkF m 4 (Sh0 a1c a2c 0 2) []) (fun t k => st201 t k) ?_
 refine GoW.sg (mkF m 5 (Sh0 a1c a2c 0 2) [(.int 2)]) (fun t k => XS.iloadN X201.here hx rfl (hb hby d3_4) rfl k) ?_
 refine GoW.sg (mkF m 27 (Sh0 a1c a2c 0 2) []) (fun t k => XS.ifYes X201.here hx rfl (pc0 := 5) (pc' := 27) rfl (hb hby d3_5) rfl (by decide) (by decide) (by decide) k) ?_
 obtain ⟨T202, X202, e202, st202⟩ := getS (host := "") X201 hx hZ hown (ww hw 19 rfl) Via.refl e201 P4 (g := (mkF m 27 (Sh0 a1c a2c 0 2) [])) rfl (hb hby d3_27)
 refine GoW.sg (mkF m 30 (Sh0 a1c a2c 0 2) [(.int x3c)]) (fun t k => st202 t k) ?_
 refine GoW.sg (mkF m 33 (Sh0 a1c a2c 0 2) []) (fun t k => XS.ifNo X202.here hx rfl (hb hby d3_30) rfl ((if0 _ _).trans (feq u0).1) k) ?_
 refine GoW.sg (mkF m 34 (Sh0 a1c a2c 0 2) [(.ref a2c)]) (fun t k => XS.aloadN X202.here hx rfl (hb hby d3_33) rfl rfl k) ?_
 refine GoW.sg (mkF m 35 (Sh0 a1c a2c 0 2) [(.int 0), (.ref a2c)]) (fun t k => XS.iloadN X202.here hx rfl (hb hby d3_34) rfl k) ?_
 refine GoW.sg (mkF m 36 (Sh0 a1c a2c 0 2) [(.int 2), (.int 0), (.ref a2c)]) (fun t k => XS.iloadN X202.here hx rfl (hb hby d3_35) rfl k) ?_
 obtain ⟨_, T209, L209, X209, hQ209, st209⟩ := own_callS X202 hx hZ hown (y := Y5) (ww hw 20 rfl) (ww hw 21 rfl) (ww hw 22 rfl) (ww hw 23 rfl) (by decide) 0 (rm5_23 l Z a0 hw [] a2c ka2c x1c x2c h0 n0 Z0 P3   u1 u2 ) (by decide) (by decide) e202 (by decide) (by decide) (g := (mkF m 36 (Sh0 a1c a2c 0 2) [(.int 2), (.int 0), (.ref a2c)])) rfl (by rw [hml]; rfl) (argsL := [(.ref a2c), (.int (0 : Int32)), (.int (2 : Int32))]) (rest := []) (lenOf pd_285bCII295bB rfl) rfl (by show 2 * 0 + _ ≤ _; exact Nat.le_of_eq rfl) (hb hby d3_36)
 obtain ⟨b209_e0, k209_ke0, rfl, N209q, K209, p209_0, hz_b209_e0⟩ := hQ209
 have sz_b209_e0 : h0.size ≤ b209_e0 := Nat.le_trans (Keep.refl h0 [a1c]).1 hz_b209_e0
 have ne_a1c_b209_e0 : a1c ≠ b209_e0 := Nat.ne_of_lt (Nat.lt_of_lt_of_le P0.lt hz_b209_e0)
 have N209 := Fr.app N0 N209q
 have f209_1 := P0.keep K209
 have f209_2 := P1.keep K209 nin0
 have f209_3 := P2.keep K209 nin0
 have f209_6 := (Keep.refl h0 [a1c]).trans K209 all0
 refine GoW.sg (mkF m 39 (Sh0 a1c a2c 0 2) [(.ref b209_e0)]) (fun t k => st209 t k) ?_
 refine GoW.sg (mkF m 41 (Sh14 a1c a2c 0 2 b209_e0) []) (fun t k => XS.astore X209.here hx rfl (hb hby d3_39) rfl rfl (l' := (Sh14 a1c a2c 0 2 b209_e0)) rfl k) ?_
 refine GoW.sg (mkF m 42 (Sh14 a1c a2c 0 2 b209_e0) [(.ref a1c)]) (fun t k => XS.aloadN X209.here hx rfl (hb hby d3_41) rfl rfl k) ?_
 refine GoW.sg (mkF m 44 (Sh14 a1c a2c 0 2 b209_e0) [(.ref b209_e0), (.ref a1c)]) (fun t k => XS.aload X209.here hx rfl (hb hby d3_42) rfl rfl k) ?_
 refine GoW.sg (mkF m 45 (Sh14 a1c a2c 0 2 b209_e0) [(.int 2), (.ref b209_e0), (.ref a1c)]) (fun t k => XS.iloadN X209.here hx rfl (hb hby d3_44) rfl k) ?_
 obtain ⟨_, T211, L211, X211, hQ211, st211⟩ := own_callS X209 hx hZ hown (y := Y7) (ww hw 28 rfl) (ww hw 29 rfl) (ww hw 22 rfl) (ww hw 30 rfl) (by decide) 1 (rm7_24 l Z a0 hw [] b209_e0 k209_ke0 (lat8 x1c) (lat8 x2c) T209.heap n0  p209_0    ) (by decide) (by decide) rfl (by decide) (by decide) (g := (mkF m 45 (Sh14 a1c a2c 0 2 b209_e0) [(.int 2), (.ref b209_e0), (.ref a1c)])) rfl (by rw [hml]; rfl) (argsL := [(.ref b209_e0), (.int (2 : Int32))]) (rest := [(.ref a1c)]) (lenOf pd_285bBI29B rfl) rfl (by show 2 * 0 + _ ≤ _; exact Nat.le_of_eq rfl) (hb hby d3_45)
 obtain ⟨rfl, N211q, e211⟩ := hQ211
 have N211 := Fr.app N209 N211q
 refine GoW.sg (mkF m 48 (Sh14 a1c a2c 0 2 b209_e0) [(.int 0), (.ref a1c)]) (fun t k => st211 t k) ?_
 obtain ⟨T212, h212, X212, e212, W212, st212⟩ := putF X211 hx hZ hown (host := "") (Or.inl (ww hw 31 rfl)) Via.refl e211 f209_2 f209_1 (Or.inr ⟨(ww hw 32 rfl), rfl, hnm⟩) (ww hw 6 rfl) (ty := .byte) (by decide) rfl rfl (g := (mkF m 48 (Sh14 a1c a2c 0 2 b209_e0) [(.int 0), (.ref a1c)])) rfl rfl (hb hby d3_48)
 have N212 := Fr.snoc X212 N211 g_a1c
 have f212_8 := f209_1.wr W212
 have f212_9 := f209_3.other W212 (Or.inr (slot_ne (t := (.array .byte)) (t' := .byte) (Or.inr (ww hw 34 rfl)) (Or.inr (ww hw 32 rfl)) (by decide) (by decide) (by decide)))
 have f212_11 := f209_6.wr W212 (Or.inl (List.mem_of_getElem? (i := 0) rfl))
 have f212_13 := p209_0.other W212 (Ne.symm ne_a1c_b209_e0)
 have F212coder : Fld Z h212 a1c "java/lang/String" "coder" "B" (.int (0 : Int32)) := f209_2.same W212
 refine GoW.sg (mkF m 51 (Sh14 a1c a2c 0 2 b209_e0) []) (fun t k => st212 t k) ?_
 refine GoW.sg (mkF m 52 (Sh14 a1c a2c 0 2 b209_e0) [(.ref a1c)]) (fun t k => XS.aloadN X212.here hx rfl (hb hby d3_51) rfl rfl k) ?_
 refine GoW.sg (mkF m 54 (Sh14 a1c a2c 0 2 b209_e0) [(.ref b209_e0), (.ref a1c)]) (fun t k => XS.aload X212.here hx rfl (hb hby d3_52) rfl rfl k) ?_
 obtain ⟨T213, h213, X213, e213, W213, st213⟩ := putF X212 hx hZ hown (host := "") (Or.inl (ww hw 33 rfl)) Via.refl e212 f212_9 f212_8 (Or.inr ⟨(ww hw 34 rfl), rfl, hnm⟩) (ww hw 6 rfl) (ty := (.array .byte)) (by decide) rfl rfl (g := (mkF m 54 (Sh14 a1c a2c 0 2 b209_e0) [(.ref b209_e0), (.ref a1c)])) rfl rfl (hb hby d3_54)
 have N213 := Fr.snoc X213 N212 g_a1c
 have f213_14 := f212_8.wr W213
 have f213_15 := F212coder.other W213 (Or.inr (slot_ne (t := .byte) (t' := (.array .byte)) (Or.inr (ww hw 32 rfl)) (Or.inr (ww hw 34 rfl)) (by decide) (by decide) (by decide)))
 have f213_17 := f212_11.wr W213 (Or.inl (List.mem_of_getElem? (i := 0) rfl))
 have f213_19 := f212_13.other W213 (Ne.symm ne_a1c_b209_e0)
 have F213value : Fld Z h213 a1c "java/lang/String" "value" "[B" (.ref b209_e0) := f212_9.same W213
 refine GoW.sg (mkF m 57 (Sh14 a1c a2c 0 2 b209_e0) []) (fun t k => st213 t k) ?_
 refine GoW.retV X213 hx Bd.returns (hb hby d3_57) Bd.notSynchronized ?_ (by decide) (by decide)
 rw [e213]
 exact ⟨b209_e0, k209_ke0, rfl, N213, f213_17, f213_14, f213_15, F213value, f213_19, sz_b209_e0⟩
def Q2_26 (Z : State) (a1c : Addr) (a2c : Addr) (ka2c : ClassId) (x1c : Int32) (x2c : Int32) (x3c : Int32) (h0 : Heap) (n0 : Nat) (v : Option Value) (h : Heap) (L : List Loc) : Prop := ∃ e0 : Addr, ∃ ke0 : ClassId, v = none ∧ Fr n0 L ∧ (Keep h0 h [a1c]) ∧ (Exa Z h a1c "java/lang/String") ∧ (Fld Z h a1c "java/lang/String" "coder" "B" (.int (0 : Int32))) ∧ (Fld Z h a1c "java/lang/String" "value" "[B" (.ref e0)) ∧ (Arv Z h e0 ke0 .byte (2 : Int32) [(.int (lat8 x1c)), (.int (lat8 x2c))] (.int (0 : Int32))) ∧ (h0.size ≤ e0)
theorem ef2_rm2_26 (m : MethodId) (a1c : Addr) (a2c : Addr) : entryFrame m #[(.ref a1c), (.ref a2c)] 2 = (mkF m 0 #[.val (.ref a1c), .val (.ref a2c)] []) := by first | (simp [entryFrame, mkF, argsToLocals, Value.category, maxLocals]; done) | rfl
set_option maxRecDepth 65536 in
set_option maxHeartbeats 40000000 in
theorem rm2_26 (l : Launch) (Z : State) (a0 : Array Value) (hw : ∀ d ∈ tables_1, d.before a0 Z = true) (ws : List Jvm.Cond) (a1c : Addr) (a2c : Addr) (ka2c : ClassId) (x1c : Int32) (x2c : Int32) (x3c : Int32) (h0 : Heap) (n0 : Nat) (Z0 : n0 ≤ h0.size) (P0 : Exa Z h0 a1c "java/lang/String") (P1 : Fld Z h0 a1c "java/lang/String" "coder" "B" (.int (0 : Int32))) (P2 : Fld Z h0 a1c "java/lang/String" "value" "[B" .null) (P3 : Arv Z h0 a2c ka2c .char (2 : Int32) [(.int x1c), (.int x2c)] (.int (0 : Int32))) (P4 : Sta Z h0 "java/lang/String" "COMPACT_STRINGS" "Z" (.int x3c)) (g_a1c : n0 ≤ a1c)  (u0 : ¬ (x3c = (0 : Int32))) (u1 : ¬ ((255 : Int32) < x1c)) (u2 : ¬ ((255 : Int32) < x2c))   :
    MetFree l Y2 (head1 (Jvm.Cond.code Y2 jdk_42_method_3_code 2 none :: ws) ({ frames := 3, cells := 1, slots := 2, locals := 52 } : Room)) (fun a U => a = #[(.ref a1c), (.ref a2c)] ∧ Z.Warmed39 U.vm ∧ U.heap = h0) (fun _ _ _ _ _ => True) (fun _ U o U' => ∃ v L, o = .returned v ∧ (Q2_26 Z a1c a2c ka2c x1c x2c x3c h0 n0) v U'.heap L ∧ FrameEnd U o U' L 1 2) := by
 refine MetFree.of_bodySF (plainFor_of_name pn_java_lang_String) hisR ?_
 intro p e s m args below meth c s₁ Bd hml0 hP hK
 obtain ⟨rfl, hZ, hh⟩ := hP
 have hx := Bd.exec
 have hby := Bd.bytes
 have hml : c.maxLocals = 2 := hml0
 have hown : s.vm.findClass "java/lang/String" = some m.cls := findClass_of_methodNamed Bd.named
 have hnm := (name_of_methodNamed Bd.named Bd.method).1
 have X0 : Stand p l e ({ frames := 3, cells := 1, slots := 2, locals := 52 } : Room) s m #[(.ref a1c), (.ref a2c)] below meth c s₁ [] 0 0 := Stand.of_body Bd
 have e0 : s₁.heap = h0 := by rw [← hh, Bd.state]; rfl
 have N0 := Fr.nil n0
 refine GoW.mk ?_
 refine GoW.st (fun t k => castTop (ef2_rm2_26 m a1c a2c) k) ?_
 show GoW p e below s (Q2_26 Z a1c a2c ka2c x1c x2c x3c h0 n0) 1 2 (s₁.setTop (mkF m 0 #[.val (.ref a1c), .val (.ref a2c)] []))
 refine GoW.sg (mkF m 1 #[.val (.ref a1c), .val (.ref a2c)] [(.ref a1c)]) (fun t k => XS.aloadN X0.here hx rfl (hb hby d2_0) rfl rfl k) ?_
 refine GoW.sg (mkF m 2 #[.val (.ref a1c), .val (.ref a2c)] [(.ref a2c), (.ref a1c)]) (fun t k => XS.aloadN X0.here hx rfl (hb hby d2_1) rfl rfl k) ?_
 refine GoW.sg (mkF m 3 #[.val (.ref a1c), .val (.ref a2c)] [(.int 0), (.ref a2c), (.ref a1c)]) (fun t k => XS.iconst X0.here hx rfl (hb hby d2_2) k) ?_
 refine GoW.sg (mkF m 4 #[.val (.ref a1c), .val (.ref a2c)] [(.ref a2c), (.int 0), (.ref a2c), (.ref a1c)]) (fun t k => XS.aloadN X0.here hx rfl (hb hby d2_3) rfl rfl k) ?_
 obtain ⟨cl215, Ar215, q215, Sz215, Nn215, Hh215, Gg215⟩ := id P3
 have st215 := X0.arraylength hx (hq_ e0 Ar215.1) (State.isArrayOf_alike hZ.alike Ar215.2.1) (g := (mkF m 4 #[.val (.ref a1c), .val (.ref a2c)] [(.ref a2c), (.int 0), (.ref a2c), (.ref a1c)])) rfl rfl (hb hby d2_4)
 rw [len_of Sz215 Nn215] at st215
 refine GoW.sg (mkF m 5 #[.val (.ref a1c), .val (.ref a2c)] [(.int 2), (.int 0), (.ref a2c), (.ref a1c)]) (fun t k => st215 t k) ?_
 refine GoW.sg (mkF m 6 #[.val (.ref a1c), .val (.ref a2c)] [.null, (.int 2), (.int 0), (.ref a2c), (.ref a1c)]) (fun t k => XS.aconstNull X0.here hx rfl (hb hby d2_5) k) ?_
 obtain ⟨_, _, ⟨T222, L222, k222, n222⟩, -, X222, ⟨Lc222, hQ222, l222, y222, z222⟩, st222⟩ := X0.specialBack hx (y := Y3) rfl hown (mvT hZ (ww hw 12 rfl)) (mvT hZ (ww hw 13 rfl)) (mvT hZ (ww hw 15 rfl)) (by decide) (backOf (W := 0) (rm3_25 l Z a0 hw [] a1c a2c ka2c x1c x2c x3c h0 n0 Z0 P0 P1 P2 P3 P4 g_a1c  u0 u1 u2 ) hZ (ww hw 15 rfl) (ww hw 7 rfl) (by decide) (by decide)) (g := (mkF m 6 #[.val (.ref a1c), .val (.ref a2c)] [.null, (.int 2), (.int 0), (.ref a2c), (.ref a1c)])) rfl (by rw [hml]; rfl) (Steps.refl _) (a := a1c) (argsL := [(.ref a2c), (.int (0 : Int32)), (.int (2 : Int32)), .null]) (rest := []) (lenOf pd_285bCIILjava2flang2fVoid3b29V rfl) rfl (by show 2 * 0 + _ ≤ _; exact Nat.le_of_eq rfl) (hb hby d2_6) (fun _ _ => ⟨rfl, e0, (by decide : 0 + 1 ≤ _), (by decide : 0 + 2 ≤ _)⟩)
 dsimp only [Pt.U, Pt.locs, Pt.cells, Pt.slots] at X222 l222 y222 z222 st222 hQ222
 subst l222 y222 z222
 obtain ⟨b222_e0, k222_ke0, rfl, N222q, K222, p222_0, p222_1, p222_2, p222_3, hz_b222_e0⟩ := hQ222
 have sz_b222_e0 : h0.size ≤ b222_e0 := Nat.le_trans (Keep.refl h0 [a1c]).1 hz_b222_e0
 have N222 := Fr.app N0 N222q
 have f222_2 := (Keep.refl h0 [a1c]).trans K222 (allS (Or.inl (List.mem_of_getElem? (i := 0) rfl)) all0)
 refine GoW.sg (mkF m 9 #[.val (.ref a1c), .val (.ref a2c)] []) (fun t k => st222.trans k) ?_
 refine GoW.retV X222 hx Bd.returns (hb hby d2_9) Bd.notSynchronized ?_ (by decide) (by decide)
 exact ⟨b222_e0, k222_ke0, rfl, N222, f222_2, p222_0, p222_1, p222_2, p222_3, sz_b222_e0⟩
def Q1_27 (Z : State) (x1c : Int32) (x2c : Int32) (h0 : Heap) (n0 : Nat) (v : Option Value) (h : Heap) (L : List Loc) : Prop := ∃ e0 : Addr, ∃ e1 : Addr, ∃ ke1 : ClassId, v = some (.ref e0) ∧ Fr n0 L ∧ (Keep h0 h []) ∧ (Exa Z h e0 "java/lang/String") ∧ (Fld Z h e0 "java/lang/String" "coder" "B" (.int (0 : Int32))) ∧ (Fld Z h e0 "java/lang/String" "value" "[B" (.ref e1)) ∧ (Arv Z h e1 ke1 .byte (2 : Int32) [(.int (lat8 (chA x1c))), (.int (lat8 (chB x1c)))] (.int (0 : Int32))) ∧ (h0.size ≤ e0) ∧ (h0.size ≤ e1)
theorem ef1_rm1_27 (m : MethodId) (x1c : Int32) : entryFrame m #[(.int (2 : Int32)), (.int x1c)] 5 = (mkF m 0 #[.val (.int 2), .val (.int x1c), .unset, .unset, .unset] []) := by first | (simp [entryFrame, mkF, argsToLocals, Value.category, maxLocals]; done) | rfl
set_option maxRecDepth 65536 in
set_option maxHeartbeats 40000000 in
theorem rm1_27 (l : Launch) (Z : State) (a0 : Array Value) (hw : ∀ d ∈ tables_1, d.before a0 Z = true) (ws : List Jvm.Cond) (x1c : Int32) (x2c : Int32) (h0 : Heap) (n0 : Nat) (Z0 : n0 ≤ h0.size) (P0 : Sta Z h0 "java/lang/String" "COMPACT_STRINGS" "Z" (.int x2c))   (u0 : ¬ (x2c = (0 : Int32)))   :
    MetFree l Y1 (head1 (Jvm.Cond.code Y1 method_2_code 5 (some (.object "java/lang/String")) :: ws) ({ frames := 4, cells := 3, slots := 8, locals := 66 } : Room)) (fun a U => a = #[(.int (2 : Int32)), (.int x1c)] ∧ Z.Warmed39 U.vm ∧ U.heap = h0) (fun _ _ _ _ _ => True) (fun _ U o U' => ∃ v L, o = .returned v ∧ (Q1_27 Z x1c x2c h0 n0) v U'.heap L ∧ FrameEnd U o U' L 3 8) := by
 refine MetFree.of_bodySF (plainFor_of_name pn_com_example_relaystack_relaystack_OptionValuePinLaw) hisR ?_
 intro p e s m args below meth c s₁ Bd hml0 hP hK
 obtain ⟨rfl, hZ, hh⟩ := hP
 have hx := Bd.exec
 have hby := Bd.bytes
 have hml : c.maxLocals = 5 := hml0
 have hown : s.vm.findClass "com/example/relaystack/relaystack/OptionValuePinLaw" = some m.cls := findClass_of_methodNamed Bd.named
 have hnm := (name_of_methodNamed Bd.named Bd.method).1
 have X0 : Stand p l e ({ frames := 4, cells := 3, slots := 8, locals := 66 } : Room) s m #[(.int (2 : Int32)), (.int x1c)] below meth c s₁ [] 0 0 := Stand.of_body Bd
 have e0 : s₁.heap = h0 := by rw [← hh, Bd.state]; rfl
 have N0 := Fr.nil n0
 refine GoW.mk ?_
 refine GoW.st (fun t k => castTop (ef1_rm1_27 m x1c) k) ?_
 show GoW p e below s (Q1_27 Z x1c x2c h0 n0) 3 8 (s₁.setTop (mkF m 0 (Sh1 2 x1c) []))
 refine GoW.sg (mkF m 1 (Sh1 2 x1c) [(.int x1c)]) (fun t k => XS.iloadN X0.here hx rfl (hb hby d1_0) rfl k) ?_
 refine GoW.sg (mkF m 4 (Sh1 2 x1c) [(.int 255), (.int x1c)]) (fun t k => XS.sipush X0.here hx rfl (hb hby d1_1) k) ?_
 refine GoW.sg (mkF m 5 (Sh1 2 x1c) [(.int (x1c &&& (255 : Int32)))]) (fun t k => XS.iand X0.here hx rfl (hb hby d1_4) rfl k) ?_
 refine GoW.sg (mkF m 6 (Sh1 2 x1c) [(.int (x1c &&& (255 : Int32)).toUInt32.toUInt16.toUInt32.toInt32)]) (fun t k => XS.i2c X0.here hx rfl (hb hby d1_5) rfl k) ?_
 refine GoW.sg (mkF m 7 (Sh2 2 x1c ((x1c &&& (255 : Int32)).toUInt32.toUInt16.toUInt32.toInt32)) []) (fun t k => XS.istoreN X0.here hx rfl (hb hby d1_6) rfl (l' := (Sh2 2 x1c ((x1c &&& (255 : Int32)).toUInt32.toUInt16.toUInt32.toInt32))) rfl k) ?_
 refine GoW.sg (mkF m 8 (Sh2 2 x1c ((x1c &&& (255 : Int32)).toUInt32.toUInt16.toUInt32.toInt32)) [(.int x1c)]) (fun t k => XS.iloadN X0.here hx rfl (hb hby d1_7) rfl k) ?_
 refine GoW.sg (mkF m 10 (Sh2 2 x1c ((x1c &&& (255 : Int32)).toUInt32.toUInt16.toUInt32.toInt32)) [(.int 8), (.int x1c)]) (fun t k => XS.bipush X0.here hx rfl (hb hby d1_8) k) ?_
 refine GoW.sg (mkF m 11 (Sh2 2 x1c ((x1c &&& (255 : Int32)).toUInt32.toUInt16.toUInt32.toInt32)) [(.int (x1c.toUInt32 >>> ((8 : Int32) &&& 31).toUInt32).toInt32)]) (fun t k => XS.iushr X0.here hx rfl (hb hby d1_10) rfl k) ?_
 refine GoW.sg (mkF m 14 (Sh2 2 x1c ((x1c &&& (255 : Int32)).toUInt32.toUInt16.toUInt32.toInt32)) [(.int 255), (.int (x1c.toUInt32 >>> ((8 : Int32) &&& 31).toUInt32).toInt32)]) (fun t k => XS.sipush X0.here hx rfl (hb hby d1_11) k) ?_
 refine GoW.sg (mkF m 15 (Sh2 2 x1c ((x1c &&& (255 : Int32)).toUInt32.toUInt16.toUInt32.toInt32)) [(.int ((x1c.toUInt32 >>> ((8 : Int32) &&& 31).toUInt32).toInt32 &&& (255 : Int32)))]) (fun t k => XS.iand X0.here hx rfl (hb hby d1_14) rfl k) ?_
 refine GoW.sg (mkF m 16 (Sh2 2 x1c ((x1c &&& (255 : Int32)).toUInt32.toUInt16.toUInt32.toInt32)) [(.int ((x1c.toUInt32 >>> ((8 : Int32) &&& 31).toUInt32).toInt32 &&& (255 : Int32)).toUInt32.toUInt16.toUInt32.toInt32)]) (fun t k => XS.i2c X0.here hx rfl (hb hby d1_15) rfl k) ?_
 refine GoW.sg (mkF m 17 (Sh3 2 x1c ((x1c &&& (255 : Int32)).toUInt32.toUInt16.toUInt32.toInt32) (((x1c.toUInt32 >>> ((8 : Int32) &&& 31).toUInt32).toInt32 &&& (255 : Int32)).toUInt32.toUInt16.toUInt32.toInt32)) []) (fun t k => XS.istoreN X0.here hx rfl (hb hby d1_16) rfl (l' := (Sh3 2 x1c ((x1c &&& (255 : Int32)).toUInt32.toUInt16.toUInt32.toInt32) (((x1c.toUInt32 >>> ((8 : Int32) &&& 31).toUInt32).toInt32 &&& (255 : Int32)).toUInt32.toUInt16.toUInt32.toInt32))) rfl k) ?_
 refine GoW.sg (mkF m 18 (Sh3 2 x1c ((x1c &&& (255 : Int32)).toUInt32.toUInt16.toUInt32.toInt32) (((x1c.toUInt32 >>> ((8 : Int32) &&& 31).toUInt32).toInt32 &&& (255 : Int32)).toUInt32.toUInt16.toUInt32.toInt32)) [(.int x1c)]) (fun t k => XS.iloadN X0.here hx rfl (hb hby d1_17) rfl k) ?_
 refine GoW.sg (mkF m 20 (Sh3 2 x1c ((x1c &&& (255 : Int32)).toUInt32.toUInt16.toUInt32.toInt32) (((x1c.toUInt32 >>> ((8 : Int32) &&& 31).toUInt32).toInt32 &&& (255 : Int32)).toUInt32.toUInt16.toUInt32.toInt32)) [(.int 16), (.int x1c)]) (fun t k => XS.bipush X0.here hx rfl (hb hby d1_18) k) ?_
 refine GoW.sg (mkF m 21 (Sh3 2 x1c ((x1c &&& (255 : Int32)).toUInt32.toUInt16.toUInt32.toInt32) (((x1c.toUInt32 >>> ((8 : Int32) &&& 31).toUInt32).toInt32 &&& (255 : Int32)).toUInt32.toUInt16.toUInt32.toInt32)) [(.int (x1c.toUInt32 >>> ((16 : Int32) &&& 31).toUInt32).toInt32)]) (fun t k => XS.iushr X0.here hx rfl (hb hby d1_20) rfl k) ?_
 refine GoW.sg (mkF m 24 (Sh3 2 x1c ((x1c &&& (255 : Int32)).toUInt32.toUInt16.toUInt32.toInt32) (((x1c.toUInt32 >>> ((8 : Int32) &&& 31).toUInt32).toInt32 &&& (255 : Int32)).toUInt32.toUInt16.toUInt32.toInt32)) [(.int 255), (.int (x1c.toUInt32 >>> ((16 : Int32) &&& 31).toUInt32).toInt32)]) (fun t k => XS.sipush X0.here hx rfl (hb hby d1_21) k) ?_
 refine GoW.sg (mkF m 25 (Sh3 2 x1c ((x1c &&& (255 : Int32)).toUInt32.toUInt16.toUInt32.toInt32) (((x1c.toUInt32 >>> ((8 : Int32) &&& 31).toUInt32).toInt32 &&& (255 : Int32)).toUInt32.toUInt16.toUInt32.toInt32)) [(.int ((x1c.toUInt32 >>> ((16 : Int32) &&& 31).toUInt32).toInt32 &&& (255 : Int32)))]) (fun t k => XS.iand X0.here hx rfl (hb hby d1_24) rfl k) ?_
 refine GoW.sg (mkF m 26 (Sh3 2 x1c ((x1c &&& (255 : Int32)).toUInt32.toUInt16.toUInt32.toInt32) (((x1c.toUInt32 >>> ((8 : Int32) &&& 31).toUInt32).toInt32 &&& (255 : Int32)).toUInt32.toUInt16.toUInt32.toInt32)) [(.int ((x1c.toUInt32 >>> ((16 : Int32) &&& 31).toUInt32).toInt32 &&& (255 : Int32)).toUInt32.toUInt16.toUInt32.toInt32)]) (fun t k => XS.i2c X0.here hx rfl (hb hby d1_25) rfl k) ?_
 refine GoW.sg (mkF m 28 (Sh4 2 x1c ((x1c &&& (255 : Int32)).toUInt32.toUInt16.toUInt32.toInt32) (((x1c.toUInt32 >>> ((8 : Int32) &&& 31).toUInt32).toInt32 &&& (255 : Int32)).toUInt32.toUInt16.toUInt32.toInt32) (((x1c.toUInt32 >>> ((16 : Int32) &&& 31).toUInt32).toInt32 &&& (255 : Int32)).toUInt32.toUInt16.toUInt32.toInt32)) []) (fun t k => XS.istore X0.here hx rfl (hb hby d1_26) rfl (l' := (Sh4 2 x1c ((x1c &&& (255 : Int32)).toUInt32.toUInt16.toUInt32.toInt32) (((x1c.toUInt32 >>> ((8 : Int32) &&& 31).toUInt32).toInt32 &&& (255 : Int32)).toUInt32.toUInt16.toUInt32.toInt32) (((x1c.toUInt32 >>> ((16 : Int32) &&& 31).toUInt32).toInt32 &&& (255 : Int32)).toUInt32.toUInt16.toUInt32.toInt32))) rfl k) ?_
 have loA := (own_rA x1c).1
 have hiA := (own_rA x1c).2
 have loB := (own_rB x1c).1
 have hiB := (own_rB x1c).2
 have loC := (own_rC x1c).1
 have hiC := (own_rC x1c).2
 refine GoW.sg (mkF m 29 (Sh4 2 x1c ((x1c &&& (255 : Int32)).toUInt32.toUInt16.toUInt32.toInt32) (((x1c.toUInt32 >>> ((8 : Int32) &&& 31).toUInt32).toInt32 &&& (255 : Int32)).toUInt32.toUInt16.toUInt32.toInt32) (((x1c.toUInt32 >>> ((16 : Int32) &&& 31).toUInt32).toInt32 &&& (255 : Int32)).toUInt32.toUInt16.toUInt32.toInt32)) [(.int 2)]) (fun t k => XS.iloadN X0.here hx rfl (hb hby d1_28) rfl k) ?_
 refine GoW.sg (mkF m 43 (Sh4 2 x1c ((x1c &&& (255 : Int32)).toUInt32.toUInt16.toUInt32.toInt32) (((x1c.toUInt32 >>> ((8 : Int32) &&& 31).toUInt32).toInt32 &&& (255 : Int32)).toUInt32.toUInt16.toUInt32.toInt32) (((x1c.toUInt32 >>> ((16 : Int32) &&& 31).toUInt32).toInt32 &&& (255 : Int32)).toUInt32.toUInt16.toUInt32.toInt32)) []) (fun t k => XS.ifYes X0.here hx rfl (pc0 := 29) (pc' := 43) rfl (hb hby d1_29) rfl (by decide) (by decide) (by decide) k) ?_
 refine GoW.sg (mkF m 44 (Sh4 2 x1c ((x1c &&& (255 : Int32)).toUInt32.toUInt16.toUInt32.toInt32) (((x1c.toUInt32 >>> ((8 : Int32) &&& 31).toUInt32).toInt32 &&& (255 : Int32)).toUInt32.toUInt16.toUInt32.toInt32) (((x1c.toUInt32 >>> ((16 : Int32) &&& 31).toUInt32).toInt32 &&& (255 : Int32)).toUInt32.toUInt16.toUInt32.toInt32)) [(.int 2)]) (fun t k => XS.iloadN X0.here hx rfl (hb hby d1_43) rfl k) ?_
 refine GoW.sg (mkF m 45 (Sh4 2 x1c ((x1c &&& (255 : Int32)).toUInt32.toUInt16.toUInt32.toInt32) (((x1c.toUInt32 >>> ((8 : Int32) &&& 31).toUInt32).toInt32 &&& (255 : Int32)).toUInt32.toUInt16.toUInt32.toInt32) (((x1c.toUInt32 >>> ((16 : Int32) &&& 31).toUInt32).toInt32 &&& (255 : Int32)).toUInt32.toUInt16.toUInt32.toInt32)) [(.int 1), (.int 2)]) (fun t k => XS.iconst X0.here hx rfl (hb hby d1_44) k) ?_
 refine GoW.sg (mkF m 63 (Sh4 2 x1c ((x1c &&& (255 : Int32)).toUInt32.toUInt16.toUInt32.toInt32) (((x1c.toUInt32 >>> ((8 : Int32) &&& 31).toUInt32).toInt32 &&& (255 : Int32)).toUInt32.toUInt16.toUInt32.toInt32) (((x1c.toUInt32 >>> ((16 : Int32) &&& 31).toUInt32).toInt32 &&& (255 : Int32)).toUInt32.toUInt16.toUInt32.toInt32)) []) (fun t k => XS.icmpYes X0.here hx rfl (pc0 := 45) (pc' := 63) rfl (hb hby d1_45) rfl (by decide) (by decide) (by decide) k) ?_
 refine GoW.sg (mkF m 64 (Sh4 2 x1c ((x1c &&& (255 : Int32)).toUInt32.toUInt16.toUInt32.toInt32) (((x1c.toUInt32 >>> ((8 : Int32) &&& 31).toUInt32).toInt32 &&& (255 : Int32)).toUInt32.toUInt16.toUInt32.toInt32) (((x1c.toUInt32 >>> ((16 : Int32) &&& 31).toUInt32).toInt32 &&& (255 : Int32)).toUInt32.toUInt16.toUInt32.toInt32)) [(.int 2)]) (fun t k => XS.iloadN X0.here hx rfl (hb hby d1_63) rfl k) ?_
 refine GoW.sg (mkF m 65 (Sh4 2 x1c ((x1c &&& (255 : Int32)).toUInt32.toUInt16.toUInt32.toInt32) (((x1c.toUInt32 >>> ((8 : Int32) &&& 31).toUInt32).toInt32 &&& (255 : Int32)).toUInt32.toUInt16.toUInt32.toInt32) (((x1c.toUInt32 >>> ((16 : Int32) &&& 31).toUInt32).toInt32 &&& (255 : Int32)).toUInt32.toUInt16.toUInt32.toInt32)) [(.int 2), (.int 2)]) (fun t k => XS.iconst X0.here hx rfl (hb hby d1_64) k) ?_
 refine GoW.sg (mkF m 68 (Sh4 2 x1c ((x1c &&& (255 : Int32)).toUInt32.toUInt16.toUInt32.toInt32) (((x1c.toUInt32 >>> ((8 : Int32) &&& 31).toUInt32).toInt32 &&& (255 : Int32)).toUInt32.toUInt16.toUInt32.toInt32) (((x1c.toUInt32 >>> ((16 : Int32) &&& 31).toUInt32).toInt32 &&& (255 : Int32)).toUInt32.toUInt16.toUInt32.toInt32)) []) (fun t k => XS.icmpNo X0.here hx rfl (hb hby d1_65) rfl (by decide) k) ?_
 obtain ⟨T224, h224, X224, e224, E224, A224, D224, -, st224⟩ := newO X0 hx hZ hown (ww hw 5 rfl) (ww hw 6 rfl) (ww hw 7 rfl) e0 (g := (mkF m 68 (Sh4 2 x1c ((x1c &&& (255 : Int32)).toUInt32.toUInt16.toUInt32.toInt32) (((x1c.toUInt32 >>> ((8 : Int32) &&& 31).toUInt32).toInt32 &&& (255 : Int32)).toUInt32.toUInt16.toUInt32.toInt32) (((x1c.toUInt32 >>> ((16 : Int32) &&& 31).toUInt32).toInt32 &&& (255 : Int32)).toUInt32.toUInt16.toUInt32.toInt32)) [])) rfl (hb hby d1_68) (by decide) (by decide)
 obtain ⟨b224, g224⟩ : ∃ z, z = h0.size := ⟨_, rfl⟩
 rw [← g224] at A224 D224 st224
 have g_b224 : n0 ≤ b224 := Nat.le_trans Z0 (Nat.le_of_eq g224.symm)
 have sz_b224 : h0.size ≤ b224 := Nat.le_trans (Keep.refl h0 []).1 (Nat.le_of_eq g224.symm)
 have f224_1 := P0.ext E224
 have f224_2 := (Keep.refl h0 []).ext E224
 have f224_3 := Nat.le_trans Z0 E224.1
 have F224coder : Fld Z h224 b224 "java/lang/String" "coder" "B" (.int (0 : Int32)) := D224 (Or.inr (ww hw 32 rfl)) (ty := .byte) (by decide)
 have F224value : Fld Z h224 b224 "java/lang/String" "value" "[B" .null := D224 (Or.inr (ww hw 34 rfl)) (ty := (.array .byte)) (by decide)
 refine GoW.sg (mkF m 71 (Sh4 2 x1c ((x1c &&& (255 : Int32)).toUInt32.toUInt16.toUInt32.toInt32) (((x1c.toUInt32 >>> ((8 : Int32) &&& 31).toUInt32).toInt32 &&& (255 : Int32)).toUInt32.toUInt16.toUInt32.toInt32) (((x1c.toUInt32 >>> ((16 : Int32) &&& 31).toUInt32).toInt32 &&& (255 : Int32)).toUInt32.toUInt16.toUInt32.toInt32)) [(.ref b224)]) (fun t k => st224 t k) ?_
 refine GoW.sg (mkF m 72 (Sh4 2 x1c ((x1c &&& (255 : Int32)).toUInt32.toUInt16.toUInt32.toInt32) (((x1c.toUInt32 >>> ((8 : Int32) &&& 31).toUInt32).toInt32 &&& (255 : Int32)).toUInt32.toUInt16.toUInt32.toInt32) (((x1c.toUInt32 >>> ((16 : Int32) &&& 31).toUInt32).toInt32 &&& (255 : Int32)).toUInt32.toUInt16.toUInt32.toInt32)) [(.ref b224), (.ref b224)]) (fun t k => XS.dup X224.here hx rfl (hb hby d1_71) rfl rfl k) ?_
 refine GoW.sg (mkF m 73 (Sh4 2 x1c ((x1c &&& (255 : Int32)).toUInt32.toUInt16.toUInt32.toInt32) (((x1c.toUInt32 >>> ((8 : Int32) &&& 31).toUInt32).toInt32 &&& (255 : Int32)).toUInt32.toUInt16.toUInt32.toInt32) (((x1c.toUInt32 >>> ((16 : Int32) &&& 31).toUInt32).toInt32 &&& (255 : Int32)).toUInt32.toUInt16.toUInt32.toInt32)) [(.int 2), (.ref b224), (.ref b224)]) (fun t k => XS.iconst X224.here hx rfl (hb hby d1_72) k) ?_
 obtain ⟨T225, h225, k225, X225, e225, E225, A225, st225⟩ := newP X224 hx hZ (ww hw 8 rfl) e224 (g := (mkF m 73 (Sh4 2 x1c ((x1c &&& (255 : Int32)).toUInt32.toUInt16.toUInt32.toInt32) (((x1c.toUInt32 >>> ((8 : Int32) &&& 31).toUInt32).toInt32 &&& (255 : Int32)).toUInt32.toUInt16.toUInt32.toInt32) (((x1c.toUInt32 >>> ((16 : Int32) &&& 31).toUInt32).toInt32 &&& (255 : Int32)).toUInt32.toUInt16.toUInt32.toInt32)) [(.int 2), (.ref b224), (.ref b224)])) rfl (hb hby d1_73) rfl (by decide) (cap := 2) (by decide) (by decide) (by decide) (by decide)
 obtain ⟨b225, g225⟩ : ∃ z, z = h224.size := ⟨_, rfl⟩
 rw [← g225] at A225 st225
 have g_b225 : n0 ≤ b225 := Nat.le_trans f224_3 (Nat.le_of_eq g225.symm)
 have sz_b225 : h0.size ≤ b225 := Nat.le_trans f224_2.1 (Nat.le_of_eq g225.symm)
 have ne_b224_b225 : b224 ≠ b225 := Nat.ne_of_lt (Nat.lt_of_lt_of_eq A224.lt g225.symm)
 have f225_4 := f224_1.ext E225
 have f225_5 := f224_2.ext E225
 have f225_6 := Nat.le_trans f224_3 E225.1
 have f225_7 := A224.ext E225
 have f225_8 := F224coder.ext E225
 have f225_9 := F224value.ext E225
 have V225 : Arv Z h225 b225 k225 .char (2 : Int32) [(.int (0 : Int32)), (.int (0 : Int32))] (.int (0 : Int32)) := (Arv.new A225 (by decide)).pad (pad_rep [] (.int (0 : Int32)) 2)
 refine GoW.sg (mkF m 75 (Sh4 2 x1c ((x1c &&& (255 : Int32)).toUInt32.toUInt16.toUInt32.toInt32) (((x1c.toUInt32 >>> ((8 : Int32) &&& 31).toUInt32).toInt32 &&& (255 : Int32)).toUInt32.toUInt16.toUInt32.toInt32) (((x1c.toUInt32 >>> ((16 : Int32) &&& 31).toUInt32).toInt32 &&& (255 : Int32)).toUInt32.toUInt16.toUInt32.toInt32)) [(.ref b225), (.ref b224), (.ref b224)]) (fun t k => st225 t k) ?_
 refine GoW.sg (mkF m 76 (Sh4 2 x1c ((x1c &&& (255 : Int32)).toUInt32.toUInt16.toUInt32.toInt32) (((x1c.toUInt32 >>> ((8 : Int32) &&& 31).toUInt32).toInt32 &&& (255 : Int32)).toUInt32.toUInt16.toUInt32.toInt32) (((x1c.toUInt32 >>> ((16 : Int32) &&& 31).toUInt32).toInt32 &&& (255 : Int32)).toUInt32.toUInt16.toUInt32.toInt32)) [(.ref b225), (.ref b225), (.ref b224), (.ref b224)]) (fun t k => XS.dup X225.here hx rfl (hb hby d1_75) rfl rfl k) ?_
 refine GoW.sg (mkF m 77 (Sh4 2 x1c ((x1c &&& (255 : Int32)).toUInt32.toUInt16.toUInt32.toInt32) (((x1c.toUInt32 >>> ((8 : Int32) &&& 31).toUInt32).toInt32 &&& (255 : Int32)).toUInt32.toUInt16.toUInt32.toInt32) (((x1c.toUInt32 >>> ((16 : Int32) &&& 31).toUInt32).toInt32 &&& (255 : Int32)).toUInt32.toUInt16.toUInt32.toInt32)) [(.int 0), (.ref b225), (.ref b225), (.ref b224), (.ref b224)]) (fun t k => XS.iconst X225.here hx rfl (hb hby d1_76) k) ?_
 refine GoW.sg (mkF m 78 (Sh4 2 x1c ((x1c &&& (255 : Int32)).toUInt32.toUInt16.toUInt32.toInt32) (((x1c.toUInt32 >>> ((8 : Int32) &&& 31).toUInt32).toInt32 &&& (255 : Int32)).toUInt32.toUInt16.toUInt32.toInt32) (((x1c.toUInt32 >>> ((16 : Int32) &&& 31).toUInt32).toInt32 &&& (255 : Int32)).toUInt32.toUInt16.toUInt32.toInt32)) [(.int (x1c &&& (255 : Int32)).toUInt32.toUInt16.toUInt32.toInt32), (.int 0), (.ref b225), (.ref b225), (.ref b224), (.ref b224)]) (fun t k => XS.iloadN X225.here hx rfl (hb hby d1_77) rfl k) ?_
 obtain ⟨cl226, Ar226, q226, Sz226, Nn226, Hh226, Gg226⟩ := V225
 have hin226 : ¬ ((0 : Int32) < 0 ∨ cl226.slots.size ≤ ((0 : Int32)).toNatClampNeg) := inb_of Sz226 ⟨by decide, by decide⟩
 obtain ⟨T226, h226, X226, e226, W226, st226⟩ := stC X225 hx hZ e225 Ar226 (j := (0 : Int32)) hin226 (g := (mkF m 78 (Sh4 2 x1c ((x1c &&& (255 : Int32)).toUInt32.toUInt16.toUInt32.toInt32) (((x1c.toUInt32 >>> ((8 : Int32) &&& 31).toUInt32).toInt32 &&& (255 : Int32)).toUInt32.toUInt16.toUInt32.toInt32) (((x1c.toUInt32 >>> ((16 : Int32) &&& 31).toUInt32).toInt32 &&& (255 : Int32)).toUInt32.toUInt16.toUInt32.toInt32)) [(.int (x1c &&& (255 : Int32)).toUInt32.toUInt16.toUInt32.toInt32), (.int 0), (.ref b225), (.ref b225), (.ref b224), (.ref b224)])) rfl rfl (hb hby d1_78)
 have f226_10 := f225_4.wr W226
 have f226_11 := f225_5.wr W226 (Or.inr sz_b225)
 have f226_12 := Nat.le_trans f225_6 (Nat.le_of_eq W226.size.symm)
 have f226_13 := f225_7.wr W226
 have f226_14 := f225_8.other W226 (Or.inl ne_b224_b225)
 have f226_15 := f225_9.other W226 (Or.inl ne_b224_b225)
 have V226 : Arv Z h226 b225 k225 .char (2 : Int32) [(.int (chA x1c)), (.int (0 : Int32))] (.int (0 : Int32)) := Arv.set Ar226 q226 Sz226 Nn226 Hh226 Gg226 (fits_nar_char _) W226 0 rfl (Nat.le_of_ble_eq_true rfl)
 have N226 := Fr.snoc X226 N0 g_b225
 refine GoW.sg (mkF m 79 (Sh4 2 x1c ((x1c &&& (255 : Int32)).toUInt32.toUInt16.toUInt32.toInt32) (((x1c.toUInt32 >>> ((8 : Int32) &&& 31).toUInt32).toInt32 &&& (255 : Int32)).toUInt32.toUInt16.toUInt32.toInt32) (((x1c.toUInt32 >>> ((16 : Int32) &&& 31).toUInt32).toInt32 &&& (255 : Int32)).toUInt32.toUInt16.toUInt32.toInt32)) [(.ref b225), (.ref b224), (.ref b224)]) (fun t k => st226 t k) ?_
 refine GoW.sg (mkF m 80 (Sh4 2 x1c ((x1c &&& (255 : Int32)).toUInt32.toUInt16.toUInt32.toInt32) (((x1c.toUInt32 >>> ((8 : Int32) &&& 31).toUInt32).toInt32 &&& (255 : Int32)).toUInt32.toUInt16.toUInt32.toInt32) (((x1c.toUInt32 >>> ((16 : Int32) &&& 31).toUInt32).toInt32 &&& (255 : Int32)).toUInt32.toUInt16.toUInt32.toInt32)) [(.ref b225), (.ref b225), (.ref b224), (.ref b224)]) (fun t k => XS.dup X226.here hx rfl (hb hby d1_79) rfl rfl k) ?_
 refine GoW.sg (mkF m 81 (Sh4 2 x1c ((x1c &&& (255 : Int32)).toUInt32.toUInt16.toUInt32.toInt32) (((x1c.toUInt32 >>> ((8 : Int32) &&& 31).toUInt32).toInt32 &&& (255 : Int32)).toUInt32.toUInt16.toUInt32.toInt32) (((x1c.toUInt32 >>> ((16 : Int32) &&& 31).toUInt32).toInt32 &&& (255 : Int32)).toUInt32.toUInt16.toUInt32.toInt32)) [(.int 1), (.ref b225), (.ref b225), (.ref b224), (.ref b224)]) (fun t k => XS.iconst X226.here hx rfl (hb hby d1_80) k) ?_
 refine GoW.sg (mkF m 82 (Sh4 2 x1c ((x1c &&& (255 : Int32)).toUInt32.toUInt16.toUInt32.toInt32) (((x1c.toUInt32 >>> ((8 : Int32) &&& 31).toUInt32).toInt32 &&& (255 : Int32)).toUInt32.toUInt16.toUInt32.toInt32) (((x1c.toUInt32 >>> ((16 : Int32) &&& 31).toUInt32).toInt32 &&& (255 : Int32)).toUInt32.toUInt16.toUInt32.toInt32)) [(.int ((x1c.toUInt32 >>> ((8 : Int32) &&& 31).toUInt32).toInt32 &&& (255 : Int32)).toUInt32.toUInt16.toUInt32.toInt32), (.int 1), (.ref b225), (.ref b225), (.ref b224), (.ref b224)]) (fun t k => XS.iloadN X226.here hx rfl (hb hby d1_81) rfl k) ?_
 obtain ⟨cl227, Ar227, q227, Sz227, Nn227, Hh227, Gg227⟩ := V226
 have hin227 : ¬ ((1 : Int32) < 0 ∨ cl227.slots.size ≤ ((1 : Int32)).toNatClampNeg) := inb_of Sz227 ⟨by decide, by decide⟩
 obtain ⟨T227, h227, X227, e227, W227, st227⟩ := stC X226 hx hZ e226 Ar227 (j := (1 : Int32)) hin227 (g := (mkF m 82 (Sh4 2 x1c ((x1c &&& (255 : Int32)).toUInt32.toUInt16.toUInt32.toInt32) (((x1c.toUInt32 >>> ((8 : Int32) &&& 31).toUInt32).toInt32 &&& (255 : Int32)).toUInt32.toUInt16.toUInt32.toInt32) (((x1c.toUInt32 >>> ((16 : Int32) &&& 31).toUInt32).toInt32 &&& (255 : Int32)).toUInt32.toUInt16.toUInt32.toInt32)) [(.int ((x1c.toUInt32 >>> ((8 : Int32) &&& 31).toUInt32).toInt32 &&& (255 : Int32)).toUInt32.toUInt16.toUInt32.toInt32), (.int 1), (.ref b225), (.ref b225), (.ref b224), (.ref b224)])) rfl rfl (hb hby d1_82)
 have f227_16 := f226_10.wr W227
 have f227_17 := f226_11.wr W227 (Or.inr sz_b225)
 have f227_18 := Nat.le_trans f226_12 (Nat.le_of_eq W227.size.symm)
 have f227_19 := f226_13.wr W227
 have f227_20 := f226_14.other W227 (Or.inl ne_b224_b225)
 have f227_21 := f226_15.other W227 (Or.inl ne_b224_b225)
 have V227 : Arv Z h227 b225 k225 .char (2 : Int32) [(.int (chA x1c)), (.int (chB x1c))] (.int (0 : Int32)) := Arv.set Ar227 q227 Sz227 Nn227 Hh227 Gg227 (fits_nar_char _) W227 1 rfl (Nat.le_of_ble_eq_true rfl)
 have N227 := Fr.snoc X227 N226 g_b225
 refine GoW.sg (mkF m 83 (Sh4 2 x1c ((x1c &&& (255 : Int32)).toUInt32.toUInt16.toUInt32.toInt32) (((x1c.toUInt32 >>> ((8 : Int32) &&& 31).toUInt32).toInt32 &&& (255 : Int32)).toUInt32.toUInt16.toUInt32.toInt32) (((x1c.toUInt32 >>> ((16 : Int32) &&& 31).toUInt32).toInt32 &&& (255 : Int32)).toUInt32.toUInt16.toUInt32.toInt32)) [(.ref b225), (.ref b224), (.ref b224)]) (fun t k => st227 t k) ?_
 obtain ⟨_, _, ⟨T242, L242, k242, n242⟩, -, X242, ⟨Lc242, hQ242, l242, y242, z242⟩, st242⟩ := X227.specialBack hx (y := Y2) rfl hown (mvT hZ (ww hw 9 rfl)) (mvT hZ (ww hw 10 rfl)) (mvT hZ (ww hw 11 rfl)) (by decide) (backOf (W := 1) (rm2_26 l Z a0 hw [] b224 b225 k225 (chA x1c) (chB x1c) x2c h227 n0 f227_18 f227_19 f227_20 f227_21 V227 f227_16 g_b224  u0 hiA hiB ) hZ (ww hw 11 rfl) (ww hw 7 rfl) (by decide) (by decide)) (g := (mkF m 83 (Sh4 2 x1c ((x1c &&& (255 : Int32)).toUInt32.toUInt16.toUInt32.toInt32) (((x1c.toUInt32 >>> ((8 : Int32) &&& 31).toUInt32).toInt32 &&& (255 : Int32)).toUInt32.toUInt16.toUInt32.toInt32) (((x1c.toUInt32 >>> ((16 : Int32) &&& 31).toUInt32).toInt32 &&& (255 : Int32)).toUInt32.toUInt16.toUInt32.toInt32)) [(.ref b225), (.ref b224), (.ref b224)])) rfl (by rw [hml]; rfl) (Steps.refl _) (a := b224) (argsL := [(.ref b225)]) (rest := [(.ref b224)]) (lenOf pd_285bC29V rfl) rfl (by show 2 * 0 + _ ≤ _; exact Nat.le_of_eq rfl) (hb hby d1_83) (fun _ _ => ⟨rfl, e227, (by decide : 2 + 1 ≤ _), (by decide : 6 + 2 ≤ _)⟩)
 dsimp only [Pt.U, Pt.locs, Pt.cells, Pt.slots] at X242 l242 y242 z242 st242 hQ242
 subst l242 y242 z242
 obtain ⟨b242_e0, k242_ke0, rfl, N242q, K242, p242_0, p242_1, p242_2, p242_3, hz_b242_e0⟩ := hQ242
 have sz_b242_e0 : h0.size ≤ b242_e0 := Nat.le_trans f227_17.1 hz_b242_e0
 have N242 := Fr.app N227 N242q
 have f242_23 := f227_17.trans K242 (allS (Or.inr sz_b224) all0)
 refine GoW.sg (mkF m 86 (Sh4 2 x1c ((x1c &&& (255 : Int32)).toUInt32.toUInt16.toUInt32.toInt32) (((x1c.toUInt32 >>> ((8 : Int32) &&& 31).toUInt32).toInt32 &&& (255 : Int32)).toUInt32.toUInt16.toUInt32.toInt32) (((x1c.toUInt32 >>> ((16 : Int32) &&& 31).toUInt32).toInt32 &&& (255 : Int32)).toUInt32.toUInt16.toUInt32.toInt32)) [(.ref b224)]) (fun t k => st242.trans k) ?_
 refine GoW.retA X242 hx Bd.returns rfl rfl rfl (hb hby d1_86) Bd.notSynchronized ?_ (by decide) (by decide)
 exact ⟨b224, b242_e0, k242_ke0, rfl, N242, f242_23, p242_0, p242_1, p242_2, p242_3, sz_b224, sz_b242_e0⟩
def Q6_28 (Z : State) (a1c : Addr) (a2c : Addr) (ka2c : ClassId) (ka1c : ClassId) (x1c : Int32) (x2c : Int32) (x3c : Int32) (h0 : Heap) (n0 : Nat) (v : Option Value) (h : Heap) (L : List Loc) : Prop := v = some (.int (3 : Int32)) ∧ Fr n0 L ∧ (Keep h0 h [a2c]) ∧ (Arv Z h a2c ka2c .byte (3 : Int32) [(.int (lat8 x1c)), (.int (lat8 x2c)), (.int (lat8 x3c))] (.int (0 : Int32)))
theorem ef6_rm6_28 (m : MethodId) (a1c : Addr) (a2c : Addr) : entryFrame m #[(.ref a1c), (.int (0 : Int32)), (.ref a2c), (.int (0 : Int32)), (.int (3 : Int32))] 7 = (mkF m 0 #[.val (.ref a1c), .val (.int 0), .val (.ref a2c), .val (.int 0), .val (.int 3), .unset, .unset] []) := by first | (simp [entryFrame, mkF, argsToLocals, Value.category, maxLocals]; done) | rfl
set_option maxRecDepth 65536 in
set_option maxHeartbeats 40000000 in
theorem rm6_28 (l : Launch) (Z : State) (a0 : Array Value) (hw : ∀ d ∈ tables_1, d.before a0 Z = true) (ws : List Jvm.Cond) (a1c : Addr) (a2c : Addr) (ka2c : ClassId) (ka1c : ClassId) (x1c : Int32) (x2c : Int32) (x3c : Int32) (h0 : Heap) (n0 : Nat) (P0 : Arv Z h0 a2c ka2c .byte (3 : Int32) [(.int (0 : Int32)), (.int (0 : Int32)), (.int (0 : Int32))] (.int (0 : Int32))) (P1 : Arv Z h0 a1c ka1c .char (3 : Int32) [(.int x1c), (.int x2c), (.int x3c)] (.int (0 : Int32))) (g_a2c : n0 ≤ a2c) (ne_a1c_a2c : a1c ≠ a2c) (u0 : ¬ ((255 : Int32) < x1c)) (u1 : ¬ ((255 : Int32) < x2c)) (u2 : ¬ ((255 : Int32) < x3c))   :
    MetFree l Y6 (head1 (Jvm.Cond.code Y6 jdk_52_method_21_code 7 (some .int) :: ws) ({ frames := 0, cells := 0, slots := 0, locals := 0 } : Room)) (fun a U => a = #[(.ref a1c), (.int (0 : Int32)), (.ref a2c), (.int (0 : Int32)), (.int (3 : Int32))] ∧ Z.Warmed39 U.vm ∧ U.heap = h0) (fun _ _ _ _ _ => True) (fun _ U o U' => ∃ v L, o = .returned v ∧ (Q6_28 Z a1c a2c ka2c ka1c x1c x2c x3c h0 n0) v U'.heap L ∧ FrameEnd U o U' L 0 0) := by
 refine MetFree.of_bodySF (plainFor_of_name pn_java_lang_StringUTF16) hisR ?_
 intro p e s m args below meth c s₁ Bd hml0 hP hK
 obtain ⟨rfl, hZ, hh⟩ := hP
 have hx := Bd.exec
 have hby := Bd.bytes
 have hml : c.maxLocals = 7 := hml0
 have hown : s.vm.findClass "java/lang/StringUTF16" = some m.cls := findClass_of_methodNamed Bd.named
 have hnm := (name_of_methodNamed Bd.named Bd.method).1
 have X0 : Stand p l e ({ frames := 0, cells := 0, slots := 0, locals := 0 } : Room) s m #[(.ref a1c), (.int (0 : Int32)), (.ref a2c), (.int (0 : Int32)), (.int (3 : Int32))] below meth c s₁ [] 0 0 := Stand.of_body Bd
 have e0 : s₁.heap = h0 := by rw [← hh, Bd.state]; rfl
 have N0 := Fr.nil n0
 refine GoW.mk ?_
 refine GoW.st (fun t k => castTop (ef6_rm6_28 m a1c a2c) k) ?_
 show GoW p e below s (Q6_28 Z a1c a2c ka2c ka1c x1c x2c x3c h0 n0) 0 0 (s₁.setTop (mkF m 0 (Sh10 a1c 0 a2c 0 3) []))
 refine GoW.sg (mkF m 1 (Sh10 a1c 0 a2c 0 3) [(.int 0)]) (fun t k => XS.iconst X0.here hx rfl (hb hby d6_0) k) ?_
 refine GoW.sg (mkF m 3 (Sh11 a1c 0 a2c 0 3 0) []) (fun t k => XS.istore X0.here hx rfl (hb hby d6_1) rfl (l' := (Sh11 a1c 0 a2c 0 3 0)) rfl k) ?_
 refine GoW.sg (mkF m 5 (Sh11 a1c 0 a2c 0 3 0) [(.int 0)]) (fun t k => XS.iload X0.here hx rfl (hb hby d6_3) rfl k) ?_
 refine GoW.sg (mkF m 7 (Sh11 a1c 0 a2c 0 3 0) [(.int 3), (.int 0)]) (fun t k => XS.iload X0.here hx rfl (hb hby d6_5) rfl k) ?_
 refine GoW.sg (mkF m 10 (Sh11 a1c 0 a2c 0 3 0) []) (fun t k => XS.icmpNo X0.here hx rfl (hb hby d6_7) rfl (by decide) k) ?_
 refine GoW.sg (mkF m 11 (Sh11 a1c 0 a2c 0 3 0) [(.ref a1c)]) (fun t k => XS.aloadN X0.here hx rfl (hb hby d6_10) rfl rfl k) ?_
 refine GoW.sg (mkF m 12 (Sh11 a1c 0 a2c 0 3 0) [(.int 0), (.ref a1c)]) (fun t k => XS.iloadN X0.here hx rfl (hb hby d6_11) rfl k) ?_
 obtain ⟨cl265, Ar265, q265, Sz265, Nn265, Hh265, Gg265⟩ := id P1
 have hin265 : ¬ ((0 : Int32) < 0 ∨ cl265.slots.size ≤ ((0 : Int32)).toNatClampNeg) := inb_of Sz265 ⟨by decide, by decide⟩
 refine GoW.sg (mkF m 13 (Sh11 a1c 0 a2c 0 3 0) [(.int x1c)]) (fun t k => X0.caload hx (j := (0 : Int32)) (v := (.int x1c)) (hq_ e0 Ar265.1) (State.isArrayOf_alike hZ.alike Ar265.2.1) Ar265.2.2 hin265 (Hh265.at hin265 rfl) (g := (mkF m 12 (Sh11 a1c 0 a2c 0 3 0) [(.int 0), (.ref a1c)])) rfl rfl (hb hby d6_12) t k) ?_
 refine GoW.sg (mkF m 15 (Sh12 a1c 0 a2c 0 3 0 x1c) []) (fun t k => XS.istore X0.here hx rfl (hb hby d6_13) rfl (l' := (Sh12 a1c 0 a2c 0 3 0 x1c)) rfl k) ?_
 refine GoW.sg (mkF m 17 (Sh12 a1c 0 a2c 0 3 0 x1c) [(.int x1c)]) (fun t k => XS.iload X0.here hx rfl (hb hby d6_15) rfl k) ?_
 refine GoW.sg (mkF m 20 (Sh12 a1c 0 a2c 0 3 0 x1c) [(.int 255), (.int x1c)]) (fun t k => XS.sipush X0.here hx rfl (hb hby d6_17) k) ?_
 refine GoW.sg (mkF m 26 (Sh12 a1c 0 a2c 0 3 0 x1c) []) (fun t k => XS.icmpYes X0.here hx rfl (pc0 := 20) (pc' := 26) rfl (hb hby d6_20) rfl (flt u0).2.2.2 (by decide) (by decide) k) ?_
 refine GoW.sg (mkF m 27 (Sh12 a1c 0 a2c 0 3 0 x1c) [(.ref a2c)]) (fun t k => XS.aloadN X0.here hx rfl (hb hby d6_26) rfl rfl k) ?_
 refine GoW.sg (mkF m 28 (Sh12 a1c 0 a2c 0 3 0 x1c) [(.int 0), (.ref a2c)]) (fun t k => XS.iloadN X0.here hx rfl (hb hby d6_27) rfl k) ?_
 refine GoW.sg (mkF m 30 (Sh12 a1c 0 a2c 0 3 0 x1c) [(.int x1c), (.int 0), (.ref a2c)]) (fun t k => XS.iload X0.here hx rfl (hb hby d6_28) rfl k) ?_
 refine GoW.sg (mkF m 31 (Sh12 a1c 0 a2c 0 3 0 x1c) [(.int x1c.toInt8.toInt32), (.int 0), (.ref a2c)]) (fun t k => XS.i2b X0.here hx rfl (hb hby d6_30) rfl k) ?_
 obtain ⟨cl266, Ar266, q266, Sz266, Nn266, Hh266, Gg266⟩ := P0
 have hin266 : ¬ ((0 : Int32) < 0 ∨ cl266.slots.size ≤ ((0 : Int32)).toNatClampNeg) := inb_of Sz266 ⟨by decide, by decide⟩
 obtain ⟨T266, h266, X266, e266, W266, st266⟩ := stB X0 hx hZ e0 Ar266 (j := (0 : Int32)) hin266 (g := (mkF m 31 (Sh12 a1c 0 a2c 0 3 0 x1c) [(.int x1c.toInt8.toInt32), (.int 0), (.ref a2c)])) rfl rfl (hb hby d6_31)
 have f266_1 := P1.other W266 ne_a1c_a2c
 have f266_2 := (Keep.refl h0 [a2c]).wr W266 (Or.inl (List.mem_of_getElem? (i := 0) rfl))
 have V266 : Arv Z h266 a2c ka2c .byte (3 : Int32) [(.int (lat8 x1c)), (.int (0 : Int32)), (.int (0 : Int32))] (.int (0 : Int32)) := Arv.set Ar266 q266 Sz266 Nn266 Hh266 Gg266 (fits_nar_byte _) W266 0 rfl (Nat.le_of_ble_eq_true rfl)
 have N266 := Fr.snoc X266 N0 g_a2c
 refine GoW.sg (mkF m 32 (Sh12 a1c 0 a2c 0 3 0 x1c) []) (fun t k => st266 t k) ?_
 refine GoW.sg (mkF m 35 (Sh12 a1c 1 a2c 0 3 0 x1c) []) (fun t k => XS.iinc X266.here hx rfl (hb hby d6_32) rfl (l' := (Sh12 a1c 1 a2c 0 3 0 x1c)) rfl k) ?_
 refine GoW.sg (mkF m 38 (Sh12 a1c 1 a2c 1 3 0 x1c) []) (fun t k => XS.iinc X266.here hx rfl (hb hby d6_35) rfl (l' := (Sh12 a1c 1 a2c 1 3 0 x1c)) rfl k) ?_
 refine GoW.sg (mkF m 41 (Sh12 a1c 1 a2c 1 3 1 x1c) []) (fun t k => XS.iinc X266.here hx rfl (hb hby d6_38) rfl (l' := (Sh12 a1c 1 a2c 1 3 1 x1c)) rfl k) ?_
 refine GoW.sg (mkF m 3 (Sh12 a1c 1 a2c 1 3 1 x1c) []) (fun t k => XS.goto X266.here hx rfl (pc0 := 41) (pc' := 3) rfl (hb hby d6_41) (by decide) (by decide) k) ?_
 refine GoW.sg (mkF m 5 (Sh12 a1c 1 a2c 1 3 1 x1c) [(.int 1)]) (fun t k => XS.iload X266.here hx rfl (hb hby d6_3) rfl k) ?_
 refine GoW.sg (mkF m 7 (Sh12 a1c 1 a2c 1 3 1 x1c) [(.int 3), (.int 1)]) (fun t k => XS.iload X266.here hx rfl (hb hby d6_5) rfl k) ?_
 refine GoW.sg (mkF m 10 (Sh12 a1c 1 a2c 1 3 1 x1c) []) (fun t k => XS.icmpNo X266.here hx rfl (hb hby d6_7) rfl (by decide) k) ?_
 refine GoW.sg (mkF m 11 (Sh12 a1c 1 a2c 1 3 1 x1c) [(.ref a1c)]) (fun t k => XS.aloadN X266.here hx rfl (hb hby d6_10) rfl rfl k) ?_
 refine GoW.sg (mkF m 12 (Sh12 a1c 1 a2c 1 3 1 x1c) [(.int 1), (.ref a1c)]) (fun t k => XS.iloadN X266.here hx rfl (hb hby d6_11) rfl k) ?_
 obtain ⟨cl267, Ar267, q267, Sz267, Nn267, Hh267, Gg267⟩ := id f266_1
 have hin267 : ¬ ((1 : Int32) < 0 ∨ cl267.slots.size ≤ ((1 : Int32)).toNatClampNeg) := inb_of Sz267 ⟨by decide, by decide⟩
 refine GoW.sg (mkF m 13 (Sh12 a1c 1 a2c 1 3 1 x1c) [(.int x2c)]) (fun t k => X266.caload hx (j := (1 : Int32)) (v := (.int x2c)) (hq_ e266 Ar267.1) (State.isArrayOf_alike hZ.alike Ar267.2.1) Ar267.2.2 hin267 (Hh267.at hin267 rfl) (g := (mkF m 12 (Sh12 a1c 1 a2c 1 3 1 x1c) [(.int 1), (.ref a1c)])) rfl rfl (hb hby d6_12) t k) ?_
 refine GoW.sg (mkF m 15 (Sh12 a1c 1 a2c 1 3 1 x2c) []) (fun t k => XS.istore X266.here hx rfl (hb hby d6_13) rfl (l' := (Sh12 a1c 1 a2c 1 3 1 x2c)) rfl k) ?_
 refine GoW.sg (mkF m 17 (Sh12 a1c 1 a2c 1 3 1 x2c) [(.int x2c)]) (fun t k => XS.iload X266.here hx rfl (hb hby d6_15) rfl k) ?_
 refine GoW.sg (mkF m 20 (Sh12 a1c 1 a2c 1 3 1 x2c) [(.int 255), (.int x2c)]) (fun t k => XS.sipush X266.here hx rfl (hb hby d6_17) k) ?_
 refine GoW.sg (mkF m 26 (Sh12 a1c 1 a2c 1 3 1 x2c) []) (fun t k => XS.icmpYes X266.here hx rfl (pc0 := 20) (pc' := 26) rfl (hb hby d6_20) rfl (flt u1).2.2.2 (by decide) (by decide) k) ?_
 refine GoW.sg (mkF m 27 (Sh12 a1c 1 a2c 1 3 1 x2c) [(.ref a2c)]) (fun t k => XS.aloadN X266.here hx rfl (hb hby d6_26) rfl rfl k) ?_
 refine GoW.sg (mkF m 28 (Sh12 a1c 1 a2c 1 3 1 x2c) [(.int 1), (.ref a2c)]) (fun t k => XS.iloadN X266.here hx rfl (hb hby d6_27) rfl k) ?_
 refine GoW.sg (mkF m 30 (Sh12 a1c 1 a2c 1 3 1 x2c) [(.int x2c), (.int 1), (.ref a2c)]) (fun t k => XS.iload X266.here hx rfl (hb hby d6_28) rfl k) ?_
 refine GoW.sg (mkF m 31 (Sh12 a1c 1 a2c 1 3 1 x2c) [(.int x2c.toInt8.toInt32), (.int 1), (.ref a2c)]) (fun t k => XS.i2b X266.here hx rfl (hb hby d6_30) rfl k) ?_
 obtain ⟨cl268, Ar268, q268, Sz268, Nn268, Hh268, Gg268⟩ := V266
 have hin268 : ¬ ((1 : Int32) < 0 ∨ cl268.slots.size ≤ ((1 : Int32)).toNatClampNeg) := inb_of Sz268 ⟨by decide, by decide⟩
 obtain ⟨T268, h268, X268, e268, W268, st268⟩ := stB X266 hx hZ e266 Ar268 (j := (1 : Int32)) hin268 (g := (mkF m 31 (Sh12 a1c 1 a2c 1 3 1 x2c) [(.int x2c.toInt8.toInt32), (.int 1), (.ref a2c)])) rfl rfl (hb hby d6_31)
 have f268_3 := f266_1.other W268 ne_a1c_a2c
 have f268_4 := f266_2.wr W268 (Or.inl (List.mem_of_getElem? (i := 0) rfl))
 have V268 : Arv Z h268 a2c ka2c .byte (3 : Int32) [(.int (lat8 x1c)), (.int (lat8 x2c)), (.int (0 : Int32))] (.int (0 : Int32)) := Arv.set Ar268 q268 Sz268 Nn268 Hh268 Gg268 (fits_nar_byte _) W268 1 rfl (Nat.le_of_ble_eq_true rfl)
 have N268 := Fr.snoc X268 N266 g_a2c
 refine GoW.sg (mkF m 32 (Sh12 a1c 1 a2c 1 3 1 x2c) []) (fun t k => st268 t k) ?_
 refine GoW.sg (mkF m 35 (Sh12 a1c 2 a2c 1 3 1 x2c) []) (fun t k => XS.iinc X268.here hx rfl (hb hby d6_32) rfl (l' := (Sh12 a1c 2 a2c 1 3 1 x2c)) rfl k) ?_
 refine GoW.sg (mkF m 38 (Sh12 a1c 2 a2c 2 3 1 x2c) []) (fun t k => XS.iinc X268.here hx rfl (hb hby d6_35) rfl (l' := (Sh12 a1c 2 a2c 2 3 1 x2c)) rfl k) ?_
 refine GoW.sg (mkF m 41 (Sh12 a1c 2 a2c 2 3 2 x2c) []) (fun t k => XS.iinc X268.here hx rfl (hb hby d6_38) rfl (l' := (Sh12 a1c 2 a2c 2 3 2 x2c)) rfl k) ?_
 refine GoW.sg (mkF m 3 (Sh12 a1c 2 a2c 2 3 2 x2c) []) (fun t k => XS.goto X268.here hx rfl (pc0 := 41) (pc' := 3) rfl (hb hby d6_41) (by decide) (by decide) k) ?_
 refine GoW.sg (mkF m 5 (Sh12 a1c 2 a2c 2 3 2 x2c) [(.int 2)]) (fun t k => XS.iload X268.here hx rfl (hb hby d6_3) rfl k) ?_
 refine GoW.sg (mkF m 7 (Sh12 a1c 2 a2c 2 3 2 x2c) [(.int 3), (.int 2)]) (fun t k => XS.iload X268.here hx rfl (hb hby d6_5) rfl k) ?_
 refine GoW.sg (mkF m 10 (Sh12 a1c 2 a2c 2 3 2 x2c) []) (fun t k => XS.icmpNo X268.here hx rfl (hb hby d6_7) rfl (by decide) k) ?_
 refine GoW.sg (mkF m 11 (Sh12 a1c 2 a2c 2 3 2 x2c) [(.ref a1c)]) (fun t k => XS.aloadN X268.here hx rfl (hb hby d6_10) rfl rfl k) ?_
 refine GoW.sg (mkF m 12 (Sh12 a1c 2 a2c 2 3 2 x2c) [(.int 2), (.ref a1c)]) (fun t k => XS.iloadN X268.here hx rfl (hb hby d6_11) rfl k) ?_
 obtain ⟨cl269, Ar269, q269, Sz269, Nn269, Hh269, Gg269⟩ := id f268_3
 have hin269 : ¬ ((2 : Int32) < 0 ∨ cl269.slots.size ≤ ((2 : Int32)).toNatClampNeg) := inb_of Sz269 ⟨by decide, by decide⟩
 refine GoW.sg (mkF m 13 (Sh12 a1c 2 a2c 2 3 2 x2c) [(.int x3c)]) (fun t k => X268.caload hx (j := (2 : Int32)) (v := (.int x3c)) (hq_ e268 Ar269.1) (State.isArrayOf_alike hZ.alike Ar269.2.1) Ar269.2.2 hin269 (Hh269.at hin269 rfl) (g := (mkF m 12 (Sh12 a1c 2 a2c 2 3 2 x2c) [(.int 2), (.ref a1c)])) rfl rfl (hb hby d6_12) t k) ?_
 refine GoW.sg (mkF m 15 (Sh12 a1c 2 a2c 2 3 2 x3c) []) (fun t k => XS.istore X268.here hx rfl (hb hby d6_13) rfl (l' := (Sh12 a1c 2 a2c 2 3 2 x3c)) rfl k) ?_
 refine GoW.sg (mkF m 17 (Sh12 a1c 2 a2c 2 3 2 x3c) [(.int x3c)]) (fun t k => XS.iload X268.here hx rfl (hb hby d6_15) rfl k) ?_
 refine GoW.sg (mkF m 20 (Sh12 a1c 2 a2c 2 3 2 x3c) [(.int 255), (.int x3c)]) (fun t k => XS.sipush X268.here hx rfl (hb hby d6_17) k) ?_
 refine GoW.sg (mkF m 26 (Sh12 a1c 2 a2c 2 3 2 x3c) []) (fun t k => XS.icmpYes X268.here hx rfl (pc0 := 20) (pc' := 26) rfl (hb hby d6_20) rfl (flt u2).2.2.2 (by decide) (by decide) k) ?_
 refine GoW.sg (mkF m 27 (Sh12 a1c 2 a2c 2 3 2 x3c) [(.ref a2c)]) (fun t k => XS.aloadN X268.here hx rfl (hb hby d6_26) rfl rfl k) ?_
 refine GoW.sg (mkF m 28 (Sh12 a1c 2 a2c 2 3 2 x3c) [(.int 2), (.ref a2c)]) (fun t k => XS.iloadN X268.here hx rfl (hb hby d6_27) rfl k) ?_
 refine GoW.sg (mkF m 30 (Sh12 a1c 2 a2c 2 3 2 x3c) [(.int x3c), (.int 2), (.ref a2c)]) (fun t k => XS.iload X268.here hx rfl (hb hby d6_28) rfl k) ?_
 refine GoW.sg (mkF m 31 (Sh12 a1c 2 a2c 2 3 2 x3c) [(.int x3c.toInt8.toInt32), (.int 2), (.ref a2c)]) (fun t k => XS.i2b X268.here hx rfl (hb hby d6_30) rfl k) ?_
 obtain ⟨cl270, Ar270, q270, Sz270, Nn270, Hh270, Gg270⟩ := V268
 have hin270 : ¬ ((2 : Int32) < 0 ∨ cl270.slots.size ≤ ((2 : Int32)).toNatClampNeg) := inb_of Sz270 ⟨by decide, by decide⟩
 obtain ⟨T270, h270, X270, e270, W270, st270⟩ := stB X268 hx hZ e268 Ar270 (j := (2 : Int32)) hin270 (g := (mkF m 31 (Sh12 a1c 2 a2c 2 3 2 x3c) [(.int x3c.toInt8.toInt32), (.int 2), (.ref a2c)])) rfl rfl (hb hby d6_31)
 have f270_6 := f268_4.wr W270 (Or.inl (List.mem_of_getElem? (i := 0) rfl))
 have V270 : Arv Z h270 a2c ka2c .byte (3 : Int32) [(.int (lat8 x1c)), (.int (lat8 x2c)), (.int (lat8 x3c))] (.int (0 : Int32)) := Arv.set Ar270 q270 Sz270 Nn270 Hh270 Gg270 (fits_nar_byte _) W270 2 rfl (Nat.le_of_ble_eq_true rfl)
 have N270 := Fr.snoc X270 N268 g_a2c
 refine GoW.sg (mkF m 32 (Sh12 a1c 2 a2c 2 3 2 x3c) []) (fun t k => st270 t k) ?_
 refine GoW.sg (mkF m 35 (Sh12 a1c 3 a2c 2 3 2 x3c) []) (fun t k => XS.iinc X270.here hx rfl (hb hby d6_32) rfl (l' := (Sh12 a1c 3 a2c 2 3 2 x3c)) rfl k) ?_
 refine GoW.sg (mkF m 38 (Sh12 a1c 3 a2c 3 3 2 x3c) []) (fun t k => XS.iinc X270.here hx rfl (hb hby d6_35) rfl (l' := (Sh12 a1c 3 a2c 3 3 2 x3c)) rfl k) ?_
 refine GoW.sg (mkF m 41 (Sh12 a1c 3 a2c 3 3 3 x3c) []) (fun t k => XS.iinc X270.here hx rfl (hb hby d6_38) rfl (l' := (Sh12 a1c 3 a2c 3 3 3 x3c)) rfl k) ?_
 refine GoW.sg (mkF m 3 (Sh12 a1c 3 a2c 3 3 3 x3c) []) (fun t k => XS.goto X270.here hx rfl (pc0 := 41) (pc' := 3) rfl (hb hby d6_41) (by decide) (by decide) k) ?_
 refine GoW.sg (mkF m 5 (Sh12 a1c 3 a2c 3 3 3 x3c) [(.int 3)]) (fun t k => XS.iload X270.here hx rfl (hb hby d6_3) rfl k) ?_
 refine GoW.sg (mkF m 7 (Sh12 a1c 3 a2c 3 3 3 x3c) [(.int 3), (.int 3)]) (fun t k => XS.iload X270.here hx rfl (hb hby d6_5) rfl k) ?_
 refine GoW.sg (mkF m 44 (Sh12 a1c 3 a2c 3 3 3 x3c) []) (fun t k => XS.icmpYes X270.here hx rfl (pc0 := 7) (pc' := 44) rfl (hb hby d6_7) rfl (by decide) (by decide) (by decide) k) ?_
 refine GoW.sg (mkF m 46 (Sh12 a1c 3 a2c 3 3 3 x3c) [(.int 3)]) (fun t k => XS.iload X270.here hx rfl (hb hby d6_44) rfl k) ?_
 refine GoW.retI X270 hx Bd.returns (hb hby d6_46) Bd.notSynchronized ?_ (by decide) (by decide)
 rw [e270]
 exact ⟨rfl, N270, f270_6, V270⟩
def Q5_29 (Z : State) (a1c : Addr) (ka1c : ClassId) (x1c : Int32) (x2c : Int32) (x3c : Int32) (h0 : Heap) (n0 : Nat) (v : Option Value) (h : Heap) (L : List Loc) : Prop := ∃ e0 : Addr, ∃ ke0 : ClassId, v = some (.ref e0) ∧ Fr n0 L ∧ (Keep h0 h []) ∧ (Arv Z h e0 ke0 .byte (3 : Int32) [(.int (lat8 x1c)), (.int (lat8 x2c)), (.int (lat8 x3c))] (.int (0 : Int32))) ∧ (h0.size ≤ e0)
theorem ef5_rm5_29 (m : MethodId) (a1c : Addr) : entryFrame m #[(.ref a1c), (.int (0 : Int32)), (.int (3 : Int32))] 6 = (mkF m 0 #[.val (.ref a1c), .val (.int 0), .val (.int 3), .unset, .unset, .unset] []) := by first | (simp [entryFrame, mkF, argsToLocals, Value.category, maxLocals]; done) | rfl
set_option maxRecDepth 65536 in
set_option maxHeartbeats 40000000 in
theorem rm5_29 (l : Launch) (Z : State) (a0 : Array Value) (hw : ∀ d ∈ tables_1, d.before a0 Z = true) (ws : List Jvm.Cond) (a1c : Addr) (ka1c : ClassId) (x1c : Int32) (x2c : Int32) (x3c : Int32) (h0 : Heap) (n0 : Nat) (Z0 : n0 ≤ h0.size) (P0 : Arv Z h0 a1c ka1c .char (3 : Int32) [(.int x1c), (.int x2c), (.int x3c)] (.int (0 : Int32)))   (u0 : ¬ ((255 : Int32) < x1c)) (u1 : ¬ ((255 : Int32) < x2c)) (u2 : ¬ ((255 : Int32) < x3c))   :
    MetFree l Y5 (head1 (Jvm.Cond.code Y5 jdk_52_method_16_code 6 (some (.array .byte)) :: ws) ({ frames := 1, cells := 1, slots := 3, locals := 18 } : Room)) (fun a U => a = #[(.ref a1c), (.int (0 : Int32)), (.int (3 : Int32))] ∧ Z.Warmed39 U.vm ∧ U.heap = h0) (fun _ _ _ _ _ => True) (fun _ U o U' => ∃ v L, o = .returned v ∧ (Q5_29 Z a1c ka1c x1c x2c x3c h0 n0) v U'.heap L ∧ FrameEnd U o U' L 1 3) := by
 refine MetFree.of_bodySF (plainFor_of_name pn_java_lang_StringUTF16) hisR ?_
 intro p e s m args below meth c s₁ Bd hml0 hP hK
 obtain ⟨rfl, hZ, hh⟩ := hP
 have hx := Bd.exec
 have hby := Bd.bytes
 have hml : c.maxLocals = 6 := hml0
 have hown : s.vm.findClass "java/lang/StringUTF16" = some m.cls := findClass_of_methodNamed Bd.named
 have hnm := (name_of_methodNamed Bd.named Bd.method).1
 have X0 : Stand p l e ({ frames := 1, cells := 1, slots := 3, locals := 18 } : Room) s m #[(.ref a1c), (.int (0 : Int32)), (.int (3 : Int32))] below meth c s₁ [] 0 0 := Stand.of_body Bd
 have e0 : s₁.heap = h0 := by rw [← hh, Bd.state]; rfl
 have N0 := Fr.nil n0
 refine GoW.mk ?_
 refine GoW.st (fun t k => castTop (ef5_rm5_29 m a1c) k) ?_
 show GoW p e below s (Q5_29 Z a1c ka1c x1c x2c x3c h0 n0) 1 3 (s₁.setTop (mkF m 0 (Sh8 a1c 0 3) []))
 refine GoW.sg (mkF m 1 (Sh8 a1c 0 3) [(.int 3)]) (fun t k => XS.iloadN X0.here hx rfl (hb hby d5_0) rfl k) ?_
 obtain ⟨T272, h272, k272, X272, e272, E272, A272, st272⟩ := newP X0 hx hZ (ww hw 24 rfl) e0 (g := (mkF m 1 (Sh8 a1c 0 3) [(.int 3)])) rfl (hb hby d5_1) rfl (by decide) (cap := 3) (by decide) (by decide) (by decide) (by decide)
 obtain ⟨b272, g272⟩ : ∃ z, z = h0.size := ⟨_, rfl⟩
 rw [← g272] at A272 st272
 have g_b272 : n0 ≤ b272 := Nat.le_trans Z0 (Nat.le_of_eq g272.symm)
 have sz_b272 : h0.size ≤ b272 := Nat.le_trans (Keep.refl h0 []).1 (Nat.le_of_eq g272.symm)
 have ne_a1c_b272 : a1c ≠ b272 := Nat.ne_of_lt (Nat.lt_of_lt_of_eq P0.lt g272.symm)
 have f272_1 := P0.ext E272
 have f272_2 := (Keep.refl h0 []).ext E272
 have V272 : Arv Z h272 b272 k272 .byte (3 : Int32) [(.int (0 : Int32)), (.int (0 : Int32)), (.int (0 : Int32))] (.int (0 : Int32)) := (Arv.new A272 (by decide)).pad (pad_rep [] (.int (0 : Int32)) 3)
 refine GoW.sg (mkF m 3 (Sh8 a1c 0 3) [(.ref b272)]) (fun t k => st272 t k) ?_
 refine GoW.sg (mkF m 4 (Sh9 a1c 0 3 b272) []) (fun t k => XS.astoreN X272.here hx rfl (hb hby d5_3) rfl rfl (l' := (Sh9 a1c 0 3 b272)) rfl k) ?_
 refine GoW.sg (mkF m 5 (Sh9 a1c 0 3 b272) [(.ref a1c)]) (fun t k => XS.aloadN X272.here hx rfl (hb hby d5_4) rfl rfl k) ?_
 refine GoW.sg (mkF m 6 (Sh9 a1c 0 3 b272) [(.int 0), (.ref a1c)]) (fun t k => XS.iloadN X272.here hx rfl (hb hby d5_5) rfl k) ?_
 refine GoW.sg (mkF m 7 (Sh9 a1c 0 3 b272) [(.ref b272), (.int 0), (.ref a1c)]) (fun t k => XS.aloadN X272.here hx rfl (hb hby d5_6) rfl rfl k) ?_
 refine GoW.sg (mkF m 8 (Sh9 a1c 0 3 b272) [(.int 0), (.ref b272), (.int 0), (.ref a1c)]) (fun t k => XS.iconst X272.here hx rfl (hb hby d5_7) k) ?_
 refine GoW.sg (mkF m 9 (Sh9 a1c 0 3 b272) [(.int 3), (.int 0), (.ref b272), (.int 0), (.ref a1c)]) (fun t k => XS.iloadN X272.here hx rfl (hb hby d5_8) rfl k) ?_
 obtain ⟨_, T279, L279, X279, hQ279, st279⟩ := own_callS X272 hx hZ hown (y := Y6) (ww hw 25 rfl) (ww hw 26 rfl) (ww hw 22 rfl) (ww hw 27 rfl) (by decide) 0 (rm6_28 l Z a0 hw [] a1c b272 k272 ka1c x1c x2c x3c h272 n0  V272 f272_1 g_b272 ne_a1c_b272 u0 u1 u2 ) (by decide) (by decide) e272 (by decide) (by decide) (g := (mkF m 9 (Sh9 a1c 0 3 b272) [(.int 3), (.int 0), (.ref b272), (.int 0), (.ref a1c)])) rfl (by rw [hml]; rfl) (argsL := [(.ref a1c), (.int (0 : Int32)), (.ref b272), (.int (0 : Int32)), (.int (3 : Int32))]) (rest := []) (lenOf pd_285bCI5bBII29I rfl) rfl (by show 2 * 0 + _ ≤ _; exact Nat.le_of_eq rfl) (hb hby d5_9)
 obtain ⟨rfl, N279q, K279, p279_0⟩ := hQ279
 have N279 := Fr.app N0 N279q
 have f279_5 := f272_2.trans K279 (allS (Or.inr sz_b272) all0)
 refine GoW.sg (mkF m 12 (Sh9 a1c 0 3 b272) [(.int 3)]) (fun t k => st279 t k) ?_
 refine GoW.sg (mkF m 14 (Sh13 a1c 0 3 b272 3) []) (fun t k => XS.istore X279.here hx rfl (hb hby d5_12) rfl (l' := (Sh13 a1c 0 3 b272 3)) rfl k) ?_
 refine GoW.sg (mkF m 16 (Sh13 a1c 0 3 b272 3) [(.int 3)]) (fun t k => XS.iload X279.here hx rfl (hb hby d5_14) rfl k) ?_
 refine GoW.sg (mkF m 17 (Sh13 a1c 0 3 b272 3) [(.int 3), (.int 3)]) (fun t k => XS.iloadN X279.here hx rfl (hb hby d5_16) rfl k) ?_
 refine GoW.sg (mkF m 57 (Sh13 a1c 0 3 b272 3) []) (fun t k => XS.icmpYes X279.here hx rfl (pc0 := 17) (pc' := 57) rfl (hb hby d5_17) rfl (by decide) (by decide) (by decide) k) ?_
 refine GoW.sg (mkF m 58 (Sh13 a1c 0 3 b272 3) [(.ref b272)]) (fun t k => XS.aloadN X279.here hx rfl (hb hby d5_57) rfl rfl k) ?_
 refine GoW.retA X279 hx Bd.returns rfl rfl rfl (hb hby d5_58) Bd.notSynchronized ?_ (by decide) (by decide)
 exact ⟨b272, k272, rfl, N279, f279_5, p279_0, sz_b272⟩
def Q7_30 (Z : State) (a1c : Addr) (ka1c : ClassId) (x1c : Int32) (x2c : Int32) (x3c : Int32) (h0 : Heap) (n0 : Nat) (v : Option Value) (h : Heap) (L : List Loc) : Prop := v = some (.int (0 : Int32)) ∧ Fr n0 L ∧ (h = h0)
theorem ef7_rm7_30 (m : MethodId) (a1c : Addr) : entryFrame m #[(.ref a1c), (.int (3 : Int32))] 2 = (mkF m 0 #[.val (.ref a1c), .val (.int 3)] []) := by first | (simp [entryFrame, mkF, argsToLocals, Value.category, maxLocals]; done) | rfl
set_option maxRecDepth 65536 in
set_option maxHeartbeats 40000000 in
theorem rm7_30 (l : Launch) (Z : State) (a0 : Array Value) (hw : ∀ d ∈ tables_1, d.before a0 Z = true) (ws : List Jvm.Cond) (a1c : Addr) (ka1c : ClassId) (x1c : Int32) (x2c : Int32) (x3c : Int32) (h0 : Heap) (n0 : Nat) (P0 : Arv Z h0 a1c ka1c .byte (3 : Int32) [(.int x1c), (.int x2c), (.int x3c)] (.int (0 : Int32)))      :
    MetFree l Y7 (head1 (Jvm.Cond.code Y7 jdk_52_method_15_code 2 (some .byte) :: ws) ({ frames := 0, cells := 0, slots := 0, locals := 0 } : Room)) (fun a U => a = #[(.ref a1c), (.int (3 : Int32))] ∧ Z.Warmed39 U.vm ∧ U.heap = h0) (fun _ _ _ _ _ => True) (fun _ U o U' => ∃ v L, o = .returned v ∧ (Q7_30 Z a1c ka1c x1c x2c x3c h0 n0) v U'.heap L ∧ FrameEnd U o U' L 0 0) := by
 refine MetFree.of_bodySF (plainFor_of_name pn_java_lang_StringUTF16) hisR ?_
 intro p e s m args below meth c s₁ Bd hml0 hP hK
 obtain ⟨rfl, hZ, hh⟩ := hP
 have hx := Bd.exec
 have hby := Bd.bytes
 have hml : c.maxLocals = 2 := hml0
 have hown : s.vm.findClass "java/lang/StringUTF16" = some m.cls := findClass_of_methodNamed Bd.named
 have hnm := (name_of_methodNamed Bd.named Bd.method).1
 have X0 : Stand p l e ({ frames := 0, cells := 0, slots := 0, locals := 0 } : Room) s m #[(.ref a1c), (.int (3 : Int32))] below meth c s₁ [] 0 0 := Stand.of_body Bd
 have e0 : s₁.heap = h0 := by rw [← hh, Bd.state]; rfl
 have N0 := Fr.nil n0
 refine GoW.mk ?_
 refine GoW.st (fun t k => castTop (ef7_rm7_30 m a1c) k) ?_
 show GoW p e below s (Q7_30 Z a1c ka1c x1c x2c x3c h0 n0) 0 0 (s₁.setTop (mkF m 0 #[.val (.ref a1c), .val (.int 3)] []))
 refine GoW.sg (mkF m 1 #[.val (.ref a1c), .val (.int 3)] [(.int 3)]) (fun t k => XS.iloadN X0.here hx rfl (hb hby d7_0) rfl k) ?_
 refine GoW.sg (mkF m 2 #[.val (.ref a1c), .val (.int 3)] [(.ref a1c), (.int 3)]) (fun t k => XS.aloadN X0.here hx rfl (hb hby d7_1) rfl rfl k) ?_
 obtain ⟨cl282, Ar282, q282, Sz282, Nn282, Hh282, Gg282⟩ := id P0
 have st282 := X0.arraylength hx (hq_ e0 Ar282.1) (State.isArrayOf_alike hZ.alike Ar282.2.1) (g := (mkF m 2 #[.val (.ref a1c), .val (.int 3)] [(.ref a1c), (.int 3)])) rfl rfl (hb hby d7_2)
 rw [len_of Sz282 Nn282] at st282
 refine GoW.sg (mkF m 3 #[.val (.ref a1c), .val (.int 3)] [(.int 3), (.int 3)]) (fun t k => st282 t k) ?_
 refine GoW.st (fun t k => XS.isub X0.here hx rfl (hb hby d7_3) rfl k) ?_
 rw [show ((3 : Int32) - (3 : Int32)) = (0 : Int32) from by decide]
 show GoW p e below s (Q7_30 Z a1c ka1c x1c x2c x3c h0 n0) 0 0 (s₁.setTop (mkF m 4 #[.val (.ref a1c), .val (.int 3)] [(.int 0)]))
 refine GoW.sg (mkF m 6 #[.val (.ref a1c), .val (.int 3)] [(.int 31), (.int 0)]) (fun t k => XS.bipush X0.here hx rfl (hb hby d7_4) k) ?_
 refine GoW.st (fun t k => XS.iushr X0.here hx rfl (hb hby d7_6) rfl k) ?_
 rw [show ((0 : Int32).toUInt32 >>> ((31 : Int32) &&& 31).toUInt32).toInt32 = (0 : Int32) from by decide]
 show GoW p e below s (Q7_30 Z a1c ka1c x1c x2c x3c h0 n0) 0 0 (s₁.setTop (mkF m 7 #[.val (.ref a1c), .val (.int 3)] [(.int 0)]))
 refine GoW.st (fun t k => XS.i2b X0.here hx rfl (hb hby d7_7) rfl k) ?_
 rw [show (0 : Int32).toInt8.toInt32 = (0 : Int32) from by decide]
 show GoW p e below s (Q7_30 Z a1c ka1c x1c x2c x3c h0 n0) 0 0 (s₁.setTop (mkF m 8 #[.val (.ref a1c), .val (.int 3)] [(.int 0)]))
 refine GoW.retN X0 hx (t := .byte) Bd.returns (by simp) (hb hby d7_8) Bd.notSynchronized ?_ (by decide) (by decide)
 rw [e0]
 exact ⟨rfl, N0, rfl⟩
def Q3_31 (Z : State) (a1c : Addr) (a2c : Addr) (ka2c : ClassId) (x1c : Int32) (x2c : Int32) (x3c : Int32) (x4c : Int32) (h0 : Heap) (n0 : Nat) (v : Option Value) (h : Heap) (L : List Loc) : Prop := ∃ e0 : Addr, ∃ ke0 : ClassId, v = none ∧ Fr n0 L ∧ (Keep h0 h [a1c]) ∧ (Exa Z h a1c "java/lang/String") ∧ (Fld Z h a1c "java/lang/String" "coder" "B" (.int (0 : Int32))) ∧ (Fld Z h a1c "java/lang/String" "value" "[B" (.ref e0)) ∧ (Arv Z h e0 ke0 .byte (3 : Int32) [(.int (lat8 x1c)), (.int (lat8 x2c)), (.int (lat8 x3c))] (.int (0 : Int32))) ∧ (h0.size ≤ e0)
theorem ef3_rm3_31 (m : MethodId) (a1c : Addr) (a2c : Addr) : entryFrame m #[(.ref a1c), (.ref a2c), (.int (0 : Int32)), (.int (3 : Int32)), .null] 6 = (mkF m 0 #[.val (.ref a1c), .val (.ref a2c), .val (.int 0), .val (.int 3), .val .null, .unset] []) := by first | (simp [entryFrame, mkF, argsToLocals, Value.category, maxLocals]; done) | rfl
set_option maxRecDepth 65536 in
set_option maxHeartbeats 40000000 in
theorem rm3_31 (l : Launch) (Z : State) (a0 : Array Value) (hw : ∀ d ∈ tables_1, d.before a0 Z = true) (ws : List Jvm.Cond) (a1c : Addr) (a2c : Addr) (ka2c : ClassId) (x1c : Int32) (x2c : Int32) (x3c : Int32) (x4c : Int32) (h0 : Heap) (n0 : Nat) (Z0 : n0 ≤ h0.size) (P0 : Exa Z h0 a1c "java/lang/String") (P1 : Fld Z h0 a1c "java/lang/String" "coder" "B" (.int (0 : Int32))) (P2 : Fld Z h0 a1c "java/lang/String" "value" "[B" .null) (P3 : Arv Z h0 a2c ka2c .char (3 : Int32) [(.int x1c), (.int x2c), (.int x3c)] (.int (0 : Int32))) (P4 : Sta Z h0 "java/lang/String" "COMPACT_STRINGS" "Z" (.int x4c)) (g_a1c : n0 ≤ a1c)  (u0 : ¬ (x4c = (0 : Int32))) (u1 : ¬ ((255 : Int32) < x1c)) (u2 : ¬ ((255 : Int32) < x2c)) (u3 : ¬ ((255 : Int32) < x3c))   :
    MetFree l Y3 (head1 (Jvm.Cond.code Y3 jdk_42_method_149_code 6 none :: ws) ({ frames := 2, cells := 1, slots := 3, locals := 35 } : Room)) (fun a U => a = #[(.ref a1c), (.ref a2c), (.int (0 : Int32)), (.int (3 : Int32)), .null] ∧ Z.Warmed39 U.vm ∧ U.heap = h0) (fun _ _ _ _ _ => True) (fun _ U o U' => ∃ v L, o = .returned v ∧ (Q3_31 Z a1c a2c ka2c x1c x2c x3c x4c h0 n0) v U'.heap L ∧ FrameEnd U o U' L 1 3) := by
 refine MetFree.of_bodySF (plainFor_of_name pn_java_lang_String) hisR ?_
 intro p e s m args below meth c s₁ Bd hml0 hP hK
 obtain ⟨rfl, hZ, hh⟩ := hP
 have hx := Bd.exec
 have hby := Bd.bytes
 have hml : c.maxLocals = 6 := hml0
 have hown : s.vm.findClass "java/lang/String" = some m.cls := findClass_of_methodNamed Bd.named
 have hnm := (name_of_methodNamed Bd.named Bd.method).1
 have X0 : Stand p l e ({ frames := 2, cells := 1, slots := 3, locals := 35 } : Room) s m #[(.ref a1c), (.ref a2c), (.int (0 : Int32)), (.int (3 : Int32)), .null] below meth c s₁ [] 0 0 := Stand.of_body Bd
 have e0 : s₁.heap = h0 := by rw [← hh, Bd.state]; rfl
 have N0 := Fr.nil n0
 refine GoW.mk ?_
 refine GoW.st (fun t k => castTop (ef3_rm3_31 m a1c a2c) k) ?_
 show GoW p e below s (Q3_31 Z a1c a2c ka2c x1c x2c x3c x4c h0 n0) 1 3 (s₁.setTop (mkF m 0 (Sh0 a1c a2c 0 3) []))
 refine GoW.sg (mkF m 1 (Sh0 a1c a2c 0 3) [(.ref a1c)]) (fun t k => XS.aloadN X0.here hx rfl (hb hby d3_0) rfl rfl k) ?_
 obtain ⟨T286, X286, e286, st286⟩ := initO X0 hx hZ hown (ww hw 16 rfl) (ww hw 17 rfl) (ww hw 18 rfl) e0 (g := (mkF m 1 (Sh0 a1c a2c 0 3) [(.ref a1c)])) rfl (by rw [hml]; rfl) rfl (hb hby d3_1) (by decide) (W := 0) (by show 2 * 0 + _ ≤ _; exact Nat.le_of_eq rfl) (by decide)
 refine GoW.sg (mkF m 4 (Sh0 a1c a2c 0 3) []) (fun t k => st286 t k) ?_
 refine GoW.sg (mkF m 5 (Sh0 a1c a2c 0 3) [(.int 3)]) (fun t k => XS.iloadN X286.here hx rfl (hb hby d3_4) rfl k) ?_
 refine GoW.sg (mkF m 27 (Sh0 a1c a2c 0 3) []) (fun t k => XS.ifYes X286.here hx rfl (pc0 := 5) (pc' := 27) rfl (hb hby d3_5) rfl (by decide) (by decide) (by decide) k) ?_
 obtain ⟨T287, X287, e287, st287⟩ := getS (host := "") X286 hx hZ hown (ww hw 19 rfl) Via.refl e286 P4 (g := (mkF m 27 (Sh0 a1c a2c 0 3) [])) rfl (hb hby d3_27)
 refine GoW.sg (mkF m 30 (Sh0 a1c a2c 0 3) [(.int x4c)]) (fun t k => st287 t k) ?_
 refine GoW.sg (mkF m 33 (Sh0 a1c a2c 0 3) []) (fun t k => XS.ifNo X287.here hx rfl (hb hby d3_30) rfl ((if0 _ _).trans (feq u0).1) k) ?_
 refine GoW.sg (mkF m 34 (Sh0 a1c a2c 0 3) [(.ref a2c)]) (fun t k => XS.aloadN X287.here hx rfl (hb hby d3_33) rfl rfl k) ?_
 refine GoW.sg (mkF m 35 (Sh0 a1c a2c 0 3) [(.int 0), (.ref a2c)]) (fun t k => XS.iloadN X287.here hx rfl (hb hby d3_34) rfl k) ?_
 refine GoW.sg (mkF m 36 (Sh0 a1c a2c 0 3) [(.int 3), (.int 0), (.ref a2c)]) (fun t k => XS.iloadN X287.here hx rfl (hb hby d3_35) rfl k) ?_
 obtain ⟨_, T296, L296, X296, hQ296, st296⟩ := own_callS X287 hx hZ hown (y := Y5) (ww hw 20 rfl) (ww hw 21 rfl) (ww hw 22 rfl) (ww hw 23 rfl) (by decide) 0 (rm5_29 l Z a0 hw [] a2c ka2c x1c x2c x3c h0 n0 Z0 P3   u1 u2 u3 ) (by decide) (by decide) e287 (by decide) (by decide) (g := (mkF m 36 (Sh0 a1c a2c 0 3) [(.int 3), (.int 0), (.ref a2c)])) rfl (by rw [hml]; rfl) (argsL := [(.ref a2c), (.int (0 : Int32)), (.int (3 : Int32))]) (rest := []) (lenOf pd_285bCII295bB rfl) rfl (by show 2 * 0 + _ ≤ _; exact Nat.le_of_eq rfl) (hb hby d3_36)
 obtain ⟨b296_e0, k296_ke0, rfl, N296q, K296, p296_0, hz_b296_e0⟩ := hQ296
 have sz_b296_e0 : h0.size ≤ b296_e0 := Nat.le_trans (Keep.refl h0 [a1c]).1 hz_b296_e0
 have ne_a1c_b296_e0 : a1c ≠ b296_e0 := Nat.ne_of_lt (Nat.lt_of_lt_of_le P0.lt hz_b296_e0)
 have N296 := Fr.app N0 N296q
 have f296_1 := P0.keep K296
 have f296_2 := P1.keep K296 nin0
 have f296_3 := P2.keep K296 nin0
 have f296_6 := (Keep.refl h0 [a1c]).trans K296 all0
 refine GoW.sg (mkF m 39 (Sh0 a1c a2c 0 3) [(.ref b296_e0)]) (fun t k => st296 t k) ?_
 refine GoW.sg (mkF m 41 (Sh14 a1c a2c 0 3 b296_e0) []) (fun t k => XS.astore X296.here hx rfl (hb hby d3_39) rfl rfl (l' := (Sh14 a1c a2c 0 3 b296_e0)) rfl k) ?_
 refine GoW.sg (mkF m 42 (Sh14 a1c a2c 0 3 b296_e0) [(.ref a1c)]) (fun t k => XS.aloadN X296.here hx rfl (hb hby d3_41) rfl rfl k) ?_
 refine GoW.sg (mkF m 44 (Sh14 a1c a2c 0 3 b296_e0) [(.ref b296_e0), (.ref a1c)]) (fun t k => XS.aload X296.here hx rfl (hb hby d3_42) rfl rfl k) ?_
 refine GoW.sg (mkF m 45 (Sh14 a1c a2c 0 3 b296_e0) [(.int 3), (.ref b296_e0), (.ref a1c)]) (fun t k => XS.iloadN X296.here hx rfl (hb hby d3_44) rfl k) ?_
 obtain ⟨_, T298, L298, X298, hQ298, st298⟩ := own_callS X296 hx hZ hown (y := Y7) (ww hw 28 rfl) (ww hw 29 rfl) (ww hw 22 rfl) (ww hw 30 rfl) (by decide) 1 (rm7_30 l Z a0 hw [] b296_e0 k296_ke0 (lat8 x1c) (lat8 x2c) (lat8 x3c) T296.heap n0  p296_0    ) (by decide) (by decide) rfl (by decide) (by decide) (g := (mkF m 45 (Sh14 a1c a2c 0 3 b296_e0) [(.int 3), (.ref b296_e0), (.ref a1c)])) rfl (by rw [hml]; rfl) (argsL := [(.ref b296_e0), (.int (3 : Int32))]) (rest := [(.ref a1c)]) (lenOf pd_285bBI29B rfl) rfl (by show 2 * 0 + _ ≤ _; exact Nat.le_of_eq rfl) (hb hby d3_45)
 obtain ⟨rfl, N298q, e298⟩ := hQ298
 have N298 := Fr.app N296 N298q
 refine GoW.sg (mkF m 48 (Sh14 a1c a2c 0 3 b296_e0) [(.int 0), (.ref a1c)]) (fun t k => st298 t k) ?_
 obtain ⟨T299, h299, X299, e299, W299, st299⟩ := putF X298 hx hZ hown (host := "") (Or.inl (ww hw 31 rfl)) Via.refl e298 f296_2 f296_1 (Or.inr ⟨(ww hw 32 rfl), rfl, hnm⟩) (ww hw 6 rfl) (ty := .byte) (by decide) rfl rfl (g := (mkF m 48 (Sh14 a1c a2c 0 3 b296_e0) [(.int 0), (.ref a1c)])) rfl rfl (hb hby d3_48)
 have N299 := Fr.snoc X299 N298 g_a1c
 have f299_8 := f296_1.wr W299
 have f299_9 := f296_3.other W299 (Or.inr (slot_ne (t := (.array .byte)) (t' := .byte) (Or.inr (ww hw 34 rfl)) (Or.inr (ww hw 32 rfl)) (by decide) (by decide) (by decide)))
 have f299_11 := f296_6.wr W299 (Or.inl (List.mem_of_getElem? (i := 0) rfl))
 have f299_13 := p296_0.other W299 (Ne.symm ne_a1c_b296_e0)
 have F299coder : Fld Z h299 a1c "java/lang/String" "coder" "B" (.int (0 : Int32)) := f296_2.same W299
 refine GoW.sg (mkF m 51 (Sh14 a1c a2c 0 3 b296_e0) []) (fun t k => st299 t k) ?_
 refine GoW.sg (mkF m 52 (Sh14 a1c a2c 0 3 b296_e0) [(.ref a1c)]) (fun t k => XS.aloadN X299.here hx rfl (hb hby d3_51) rfl rfl k) ?_
 refine GoW.sg (mkF m 54 (Sh14 a1c a2c 0 3 b296_e0) [(.ref b296_e0), (.ref a1c)]) (fun t k => XS.aload X299.here hx rfl (hb hby d3_52) rfl rfl k) ?_
 obtain ⟨T300, h300, X300, e300, W300, st300⟩ := putF X299 hx hZ hown (host := "") (Or.inl (ww hw 33 rfl)) Via.refl e299 f299_9 f299_8 (Or.inr ⟨(ww hw 34 rfl), rfl, hnm⟩) (ww hw 6 rfl) (ty := (.array .byte)) (by decide) rfl rfl (g := (mkF m 54 (Sh14 a1c a2c 0 3 b296_e0) [(.ref b296_e0), (.ref a1c)])) rfl rfl (hb hby d3_54)
 have N300 := Fr.snoc X300 N299 g_a1c
 have f300_14 := f299_8.wr W300
 have f300_15 := F299coder.other W300 (Or.inr (slot_ne (t := .byte) (t' := (.array .byte)) (Or.inr (ww hw 32 rfl)) (Or.inr (ww hw 34 rfl)) (by decide) (by decide) (by decide)))
 have f300_17 := f299_11.wr W300 (Or.inl (List.mem_of_getElem? (i := 0) rfl))
 have f300_19 := f299_13.other W300 (Ne.symm ne_a1c_b296_e0)
 have F300value : Fld Z h300 a1c "java/lang/String" "value" "[B" (.ref b296_e0) := f299_9.same W300
 refine GoW.sg (mkF m 57 (Sh14 a1c a2c 0 3 b296_e0) []) (fun t k => st300 t k) ?_
 refine GoW.retV X300 hx Bd.returns (hb hby d3_57) Bd.notSynchronized ?_ (by decide) (by decide)
 rw [e300]
 exact ⟨b296_e0, k296_ke0, rfl, N300, f300_17, f300_14, f300_15, F300value, f300_19, sz_b296_e0⟩
def Q2_32 (Z : State) (a1c : Addr) (a2c : Addr) (ka2c : ClassId) (x1c : Int32) (x2c : Int32) (x3c : Int32) (x4c : Int32) (h0 : Heap) (n0 : Nat) (v : Option Value) (h : Heap) (L : List Loc) : Prop := ∃ e0 : Addr, ∃ ke0 : ClassId, v = none ∧ Fr n0 L ∧ (Keep h0 h [a1c]) ∧ (Exa Z h a1c "java/lang/String") ∧ (Fld Z h a1c "java/lang/String" "coder" "B" (.int (0 : Int32))) ∧ (Fld Z h a1c "java/lang/String" "value" "[B" (.ref e0)) ∧ (Arv Z h e0 ke0 .byte (3 : Int32) [(.int (lat8 x1c)), (.int (lat8 x2c)), (.int (lat8 x3c))] (.int (0 : Int32))) ∧ (h0.size ≤ e0)
theorem ef2_rm2_32 (m : MethodId) (a1c : Addr) (a2c : Addr) : entryFrame m #[(.ref a1c), (.ref a2c)] 2 = (mkF m 0 #[.val (.ref a1c), .val (.ref a2c)] []) := by first | (simp [entryFrame, mkF, argsToLocals, Value.category, maxLocals]; done) | rfl
set_option maxRecDepth 65536 in
set_option maxHeartbeats 40000000 in
theorem rm2_32 (l : Launch) (Z : State) (a0 : Array Value) (hw : ∀ d ∈ tables_1, d.before a0 Z = true) (ws : List Jvm.Cond) (a1c : Addr) (a2c : Addr) (ka2c : ClassId) (x1c : Int32) (x2c : Int32) (x3c : Int32) (x4c : Int32) (h0 : Heap) (n0 : Nat) (Z0 : n0 ≤ h0.size) (P0 : Exa Z h0 a1c "java/lang/String") (P1 : Fld Z h0 a1c "java/lang/String" "coder" "B" (.int (0 : Int32))) (P2 : Fld Z h0 a1c "java/lang/String" "value" "[B" .null) (P3 : Arv Z h0 a2c ka2c .char (3 : Int32) [(.int x1c), (.int x2c), (.int x3c)] (.int (0 : Int32))) (P4 : Sta Z h0 "java/lang/String" "COMPACT_STRINGS" "Z" (.int x4c)) (g_a1c : n0 ≤ a1c)  (u0 : ¬ (x4c = (0 : Int32))) (u1 : ¬ ((255 : Int32) < x1c)) (u2 : ¬ ((255 : Int32) < x2c)) (u3 : ¬ ((255 : Int32) < x3c))   :
    MetFree l Y2 (head1 (Jvm.Cond.code Y2 jdk_42_method_3_code 2 none :: ws) ({ frames := 3, cells := 1, slots := 3, locals := 52 } : Room)) (fun a U => a = #[(.ref a1c), (.ref a2c)] ∧ Z.Warmed39 U.vm ∧ U.heap = h0) (fun _ _ _ _ _ => True) (fun _ U o U' => ∃ v L, o = .returned v ∧ (Q2_32 Z a1c a2c ka2c x1c x2c x3c x4c h0 n0) v U'.heap L ∧ FrameEnd U o U' L 1 3) := by
 refine MetFree.of_bodySF (plainFor_of_name pn_java_lang_String) hisR ?_
 intro p e s m args below meth c s₁ Bd hml0 hP hK
 obtain ⟨rfl, hZ, hh⟩ := hP
 have hx := Bd.exec
 have hby := Bd.bytes
 have hml : c.maxLocals = 2 := hml0
 have hown : s.vm.findClass "java/lang/String" = some m.cls := findClass_of_methodNamed Bd.named
 have hnm := (name_of_methodNamed Bd.named Bd.method).1
 have X0 : Stand p l e ({ frames := 3, cells := 1, slots := 3, locals := 52 } : Room) s m #[(.ref a1c), (.ref a2c)] below meth c s₁ [] 0 0 := Stand.of_body Bd
 have e0 : s₁.heap = h0 := by rw [← hh, Bd.state]; rfl
 have N0 := Fr.nil n0
 refine GoW.mk ?_
 refine GoW.st (fun t k => castTop (ef2_rm2_32 m a1c a2c) k) ?_
 show GoW p e below s (Q2_32 Z a1c a2c ka2c x1c x2c x3c x4c h0 n0) 1 3 (s₁.setTop (mkF m 0 #[.val (.ref a1c), .val (.ref a2c)] []))
 refine GoW.sg (mkF m 1 #[.val (.ref a1c), .val (.ref a2c)] [(.ref a1c)]) (fun t k => XS.aloadN X0.here hx rfl (hb hby d2_0) rfl rfl k) ?_
 refine GoW.sg (mkF m 2 #[.val (.ref a1c), .val (.ref a2c)] [(.ref a2c), (.ref a1c)]) (fun t k => XS.aloadN X0.here hx rfl (hb hby d2_1) rfl rfl k) ?_
 refine GoW.sg (mkF m 3 #[.val (.ref a1c), .val (.ref a2c)] [(.int 0), (.ref a2c), (.ref a1c)]) (fun t k => XS.iconst X0.here hx rfl (hb hby d2_2) k) ?_
 refine GoW.sg (mkF m 4 #[.val (.ref a1c), .val (.ref a2c)] [(.ref a2c), (.int 0), (.ref a2c), (.ref a1c)]) (fun t k => XS.aloadN X0.here hx rfl (hb hby d2_3) rfl rfl k) ?_
 obtain ⟨cl302, Ar302, q302, Sz302, Nn302, Hh302, Gg302⟩ := id P3
 have st302 := X0.arraylength hx (hq_ e0 Ar302.1) (State.isArrayOf_alike hZ.alike Ar302.2.1) (g := (mkF m 4 #[.val (.ref a1c), .val (.ref a2c)] [(.ref a2c), (.int 0), (.ref a2c), (.ref a1c)])) rfl rfl (hb hby d2_4)
 rw [len_of Sz302 Nn302] at st302
 refine GoW.sg (mkF m 5 #[.val (.ref a1c), .val (.ref a2c)] [(.int 3), (.int 0), (.ref a2c), (.ref a1c)]) (fun t k => st302 t k) ?_
 refine GoW.sg (mkF m 6 #[.val (.ref a1c), .val (.ref a2c)] [.null, (.int 3), (.int 0), (.ref a2c), (.ref a1c)]) (fun t k => XS.aconstNull X0.here hx rfl (hb hby d2_5) k) ?_
 obtain ⟨_, _, ⟨T309, L309, k309, n309⟩, -, X309, ⟨Lc309, hQ309, l309, y309, z309⟩, st309⟩ := X0.specialBack hx (y := Y3) rfl hown (mvT hZ (ww hw 12 rfl)) (mvT hZ (ww hw 13 rfl)) (mvT hZ (ww hw 15 rfl)) (by decide) (backOf (W := 0) (rm3_31 l Z a0 hw [] a1c a2c ka2c x1c x2c x3c x4c h0 n0 Z0 P0 P1 P2 P3 P4 g_a1c  u0 u1 u2 u3 ) hZ (ww hw 15 rfl) (ww hw 7 rfl) (by decide) (by decide)) (g := (mkF m 6 #[.val (.ref a1c), .val (.ref a2c)] [.null, (.int 3), (.int 0), (.ref a2c), (.ref a1c)])) rfl (by rw [hml]; rfl) (Steps.refl _) (a := a1c) (argsL := [(.ref a2c), (.int (0 : Int32)), (.int (3 : Int32)), .null]) (rest := []) (lenOf pd_285bCIILjava2flang2fVoid3b29V rfl) rfl (by show 2 * 0 + _ ≤ _; exact Nat.le_of_eq rfl) (hb hby d2_6) (fun _ _ => ⟨rfl, e0, (by decide : 0 + 1 ≤ _), (by decide : 0 + 3 ≤ _)⟩)
 dsimp only [Pt.U, Pt.locs, Pt.cells, Pt.slots] at X309 l309 y309 z309 st309 hQ309
 subst l309 y309 z309
 obtain ⟨b309_e0, k309_ke0, rfl, N309q, K309, p309_0, p309_1, p309_2, p309_3, hz_b309_e0⟩ := hQ309
 have sz_b309_e0 : h0.size ≤ b309_e0 := Nat.le_trans (Keep.refl h0 [a1c]).1 hz_b309_e0
 have N309 := Fr.app N0 N309q
 have f309_2 := (Keep.refl h0 [a1c]).trans K309 (allS (Or.inl (List.mem_of_getElem? (i := 0) rfl)) all0)
 refine GoW.sg (mkF m 9 #[.val (.ref a1c), .val (.ref a2c)] []) (fun t k => st309.trans k) ?_
 refine GoW.retV X309 hx Bd.returns (hb hby d2_9) Bd.notSynchronized ?_ (by decide) (by decide)
 exact ⟨b309_e0, k309_ke0, rfl, N309, f309_2, p309_0, p309_1, p309_2, p309_3, sz_b309_e0⟩
def Q1_33 (Z : State) (x1c : Int32) (x2c : Int32) (h0 : Heap) (n0 : Nat) (v : Option Value) (h : Heap) (L : List Loc) : Prop := ∃ e0 : Addr, ∃ e1 : Addr, ∃ ke1 : ClassId, v = some (.ref e0) ∧ Fr n0 L ∧ (Keep h0 h []) ∧ (Exa Z h e0 "java/lang/String") ∧ (Fld Z h e0 "java/lang/String" "coder" "B" (.int (0 : Int32))) ∧ (Fld Z h e0 "java/lang/String" "value" "[B" (.ref e1)) ∧ (Arv Z h e1 ke1 .byte (3 : Int32) [(.int (lat8 (chA x1c))), (.int (lat8 (chB x1c))), (.int (lat8 (chC x1c)))] (.int (0 : Int32))) ∧ (h0.size ≤ e0) ∧ (h0.size ≤ e1)
theorem ef1_rm1_33 (m : MethodId) (x1c : Int32) : entryFrame m #[(.int (3 : Int32)), (.int x1c)] 5 = (mkF m 0 #[.val (.int 3), .val (.int x1c), .unset, .unset, .unset] []) := by first | (simp [entryFrame, mkF, argsToLocals, Value.category, maxLocals]; done) | rfl
set_option maxRecDepth 65536 in
set_option maxHeartbeats 40000000 in
theorem rm1_33 (l : Launch) (Z : State) (a0 : Array Value) (hw : ∀ d ∈ tables_1, d.before a0 Z = true) (ws : List Jvm.Cond) (x1c : Int32) (x2c : Int32) (h0 : Heap) (n0 : Nat) (Z0 : n0 ≤ h0.size) (P0 : Sta Z h0 "java/lang/String" "COMPACT_STRINGS" "Z" (.int x2c))   (u0 : ¬ (x2c = (0 : Int32)))   :
    MetFree l Y1 (head1 (Jvm.Cond.code Y1 method_2_code 5 (some (.object "java/lang/String")) :: ws) ({ frames := 4, cells := 3, slots := 10, locals := 66 } : Room)) (fun a U => a = #[(.int (3 : Int32)), (.int x1c)] ∧ Z.Warmed39 U.vm ∧ U.heap = h0) (fun _ _ _ _ _ => True) (fun _ U o U' => ∃ v L, o = .returned v ∧ (Q1_33 Z x1c x2c h0 n0) v U'.heap L ∧ FrameEnd U o U' L 3 10) := by
 refine MetFree.of_bodySF (plainFor_of_name pn_com_example_relaystack_relaystack_OptionValuePinLaw) hisR ?_
 intro p e s m args below meth c s₁ Bd hml0 hP hK
 obtain ⟨rfl, hZ, hh⟩ := hP
 have hx := Bd.exec
 have hby := Bd.bytes
 have hml : c.maxLocals = 5 := hml0
 have hown : s.vm.findClass "com/example/relaystack/relaystack/OptionValuePinLaw" = some m.cls := findClass_of_methodNamed Bd.named
 have hnm := (name_of_methodNamed Bd.named Bd.method).1
 have X0 : Stand p l e ({ frames := 4, cells := 3, slots := 10, locals := 66 } : Room) s m #[(.int (3 : Int32)), (.int x1c)] below meth c s₁ [] 0 0 := Stand.of_body Bd
 have e0 : s₁.heap = h0 := by rw [← hh, Bd.state]; rfl
 have N0 := Fr.nil n0
 refine GoW.mk ?_
 refine GoW.st (fun t k => castTop (ef1_rm1_33 m x1c) k) ?_
 show GoW p e below s (Q1_33 Z x1c x2c h0 n0) 3 10 (s₁.setTop (mkF m 0 (Sh1 3 x1c) []))
 refine GoW.sg (mkF m 1 (Sh1 3 x1c) [(.int x1c)]) (fun t k => XS.iloadN X0.here hx rfl (hb hby d1_0) rfl k) ?_
 refine GoW.sg (mkF m 4 (Sh1 3 x1c) [(.int 255), (.int x1c)]) (fun t k => XS.sipush X0.here hx rfl (hb hby d1_1) k) ?_
 refine GoW.sg (mkF m 5 (Sh1 3 x1c) [(.int (x1c &&& (255 : Int32)))]) (fun t k => XS.iand X0.here hx rfl (hb hby d1_4) rfl k) ?_
 refine GoW.sg (mkF m 6 (Sh1 3 x1c) [(.int (x1c &&& (255 : Int32)).toUInt32.toUInt16.toUInt32.toInt32)]) (fun t k => XS.i2c X0.here hx rfl (hb hby d1_5) rfl k) ?_
 refine GoW.sg (mkF m 7 (Sh2 3 x1c ((x1c &&& (255 : Int32)).toUInt32.toUInt16.toUInt32.toInt32)) []) (fun t k => XS.istoreN X0.here hx rfl (hb hby d1_6) rfl (l' := (Sh2 3 x1c ((x1c &&& (255 : Int32)).toUInt32.toUInt16.toUInt32.toInt32))) rfl k) ?_
 refine GoW.sg (mkF m 8 (Sh2 3 x1c ((x1c &&& (255 : Int32)).toUInt32.toUInt16.toUInt32.toInt32)) [(.int x1c)]) (fun t k => XS.iloadN X0.here hx rfl (hb hby d1_7) rfl k) ?_
 refine GoW.sg (mkF m 10 (Sh2 3 x1c ((x1c &&& (255 : Int32)).toUInt32.toUInt16.toUInt32.toInt32)) [(.int 8), (.int x1c)]) (fun t k => XS.bipush X0.here hx rfl (hb hby d1_8) k) ?_
 refine GoW.sg (mkF m 11 (Sh2 3 x1c ((x1c &&& (255 : Int32)).toUInt32.toUInt16.toUInt32.toInt32)) [(.int (x1c.toUInt32 >>> ((8 : Int32) &&& 31).toUInt32).toInt32)]) (fun t k => XS.iushr X0.here hx rfl (hb hby d1_10) rfl k) ?_
 refine GoW.sg (mkF m 14 (Sh2 3 x1c ((x1c &&& (255 : Int32)).toUInt32.toUInt16.toUInt32.toInt32)) [(.int 255), (.int (x1c.toUInt32 >>> ((8 : Int32) &&& 31).toUInt32).toInt32)]) (fun t k => XS.sipush X0.here hx rfl (hb hby d1_11) k) ?_
 refine GoW.sg (mkF m 15 (Sh2 3 x1c ((x1c &&& (255 : Int32)).toUInt32.toUInt16.toUInt32.toInt32)) [(.int ((x1c.toUInt32 >>> ((8 : Int32) &&& 31).toUInt32).toInt32 &&& (255 : Int32)))]) (fun t k => XS.iand X0.here hx rfl (hb hby d1_14) rfl k) ?_
 refine GoW.sg (mkF m 16 (Sh2 3 x1c ((x1c &&& (255 : Int32)).toUInt32.toUInt16.toUInt32.toInt32)) [(.int ((x1c.toUInt32 >>> ((8 : Int32) &&& 31).toUInt32).toInt32 &&& (255 : Int32)).toUInt32.toUInt16.toUInt32.toInt32)]) (fun t k => XS.i2c X0.here hx rfl (hb hby d1_15) rfl k) ?_
 refine GoW.sg (mkF m 17 (Sh3 3 x1c ((x1c &&& (255 : Int32)).toUInt32.toUInt16.toUInt32.toInt32) (((x1c.toUInt32 >>> ((8 : Int32) &&& 31).toUInt32).toInt32 &&& (255 : Int32)).toUInt32.toUInt16.toUInt32.toInt32)) []) (fun t k => XS.istoreN X0.here hx rfl (hb hby d1_16) rfl (l' := (Sh3 3 x1c ((x1c &&& (255 : Int32)).toUInt32.toUInt16.toUInt32.toInt32) (((x1c.toUInt32 >>> ((8 : Int32) &&& 31).toUInt32).toInt32 &&& (255 : Int32)).toUInt32.toUInt16.toUInt32.toInt32))) rfl k) ?_
 refine GoW.sg (mkF m 18 (Sh3 3 x1c ((x1c &&& (255 : Int32)).toUInt32.toUInt16.toUInt32.toInt32) (((x1c.toUInt32 >>> ((8 : Int32) &&& 31).toUInt32).toInt32 &&& (255 : Int32)).toUInt32.toUInt16.toUInt32.toInt32)) [(.int x1c)]) (fun t k => XS.iloadN X0.here hx rfl (hb hby d1_17) rfl k) ?_
 refine GoW.sg (mkF m 20 (Sh3 3 x1c ((x1c &&& (255 : Int32)).toUInt32.toUInt16.toUInt32.toInt32) (((x1c.toUInt32 >>> ((8 : Int32) &&& 31).toUInt32).toInt32 &&& (255 : Int32)).toUInt32.toUInt16.toUInt32.toInt32)) [(.int 16), (.int x1c)]) (fun t k => XS.bipush X0.here hx rfl (hb hby d1_18) k) ?_
 refine GoW.sg (mkF m 21 (Sh3 3 x1c ((x1c &&& (255 : Int32)).toUInt32.toUInt16.toUInt32.toInt32) (((x1c.toUInt32 >>> ((8 : Int32) &&& 31).toUInt32).toInt32 &&& (255 : Int32)).toUInt32.toUInt16.toUInt32.toInt32)) [(.int (x1c.toUInt32 >>> ((16 : Int32) &&& 31).toUInt32).toInt32)]) (fun t k => XS.iushr X0.here hx rfl (hb hby d1_20) rfl k) ?_
 refine GoW.sg (mkF m 24 (Sh3 3 x1c ((x1c &&& (255 : Int32)).toUInt32.toUInt16.toUInt32.toInt32) (((x1c.toUInt32 >>> ((8 : Int32) &&& 31).toUInt32).toInt32 &&& (255 : Int32)).toUInt32.toUInt16.toUInt32.toInt32)) [(.int 255), (.int (x1c.toUInt32 >>> ((16 : Int32) &&& 31).toUInt32).toInt32)]) (fun t k => XS.sipush X0.here hx rfl (hb hby d1_21) k) ?_
 refine GoW.sg (mkF m 25 (Sh3 3 x1c ((x1c &&& (255 : Int32)).toUInt32.toUInt16.toUInt32.toInt32) (((x1c.toUInt32 >>> ((8 : Int32) &&& 31).toUInt32).toInt32 &&& (255 : Int32)).toUInt32.toUInt16.toUInt32.toInt32)) [(.int ((x1c.toUInt32 >>> ((16 : Int32) &&& 31).toUInt32).toInt32 &&& (255 : Int32)))]) (fun t k => XS.iand X0.here hx rfl (hb hby d1_24) rfl k) ?_
 refine GoW.sg (mkF m 26 (Sh3 3 x1c ((x1c &&& (255 : Int32)).toUInt32.toUInt16.toUInt32.toInt32) (((x1c.toUInt32 >>> ((8 : Int32) &&& 31).toUInt32).toInt32 &&& (255 : Int32)).toUInt32.toUInt16.toUInt32.toInt32)) [(.int ((x1c.toUInt32 >>> ((16 : Int32) &&& 31).toUInt32).toInt32 &&& (255 : Int32)).toUInt32.toUInt16.toUInt32.toInt32)]) (fun t k => XS.i2c X0.here hx rfl (hb hby d1_25) rfl k) ?_
 refine GoW.sg (mkF m 28 (Sh4 3 x1c ((x1c &&& (255 : Int32)).toUInt32.toUInt16.toUInt32.toInt32) (((x1c.toUInt32 >>> ((8 : Int32) &&& 31).toUInt32).toInt32 &&& (255 : Int32)).toUInt32.toUInt16.toUInt32.toInt32) (((x1c.toUInt32 >>> ((16 : Int32) &&& 31).toUInt32).toInt32 &&& (255 : Int32)).toUInt32.toUInt16.toUInt32.toInt32)) []) (fun t k => XS.istore X0.here hx rfl (hb hby d1_26) rfl (l' := (Sh4 3 x1c ((x1c &&& (255 : Int32)).toUInt32.toUInt16.toUInt32.toInt32) (((x1c.toUInt32 >>> ((8 : Int32) &&& 31).toUInt32).toInt32 &&& (255 : Int32)).toUInt32.toUInt16.toUInt32.toInt32) (((x1c.toUInt32 >>> ((16 : Int32) &&& 31).toUInt32).toInt32 &&& (255 : Int32)).toUInt32.toUInt16.toUInt32.toInt32))) rfl k) ?_
 have loA := (own_rA x1c).1
 have hiA := (own_rA x1c).2
 have loB := (own_rB x1c).1
 have hiB := (own_rB x1c).2
 have loC := (own_rC x1c).1
 have hiC := (own_rC x1c).2
 refine GoW.sg (mkF m 29 (Sh4 3 x1c ((x1c &&& (255 : Int32)).toUInt32.toUInt16.toUInt32.toInt32) (((x1c.toUInt32 >>> ((8 : Int32) &&& 31).toUInt32).toInt32 &&& (255 : Int32)).toUInt32.toUInt16.toUInt32.toInt32) (((x1c.toUInt32 >>> ((16 : Int32) &&& 31).toUInt32).toInt32 &&& (255 : Int32)).toUInt32.toUInt16.toUInt32.toInt32)) [(.int 3)]) (fun t k => XS.iloadN X0.here hx rfl (hb hby d1_28) rfl k) ?_
 refine GoW.sg (mkF m 43 (Sh4 3 x1c ((x1c &&& (255 : Int32)).toUInt32.toUInt16.toUInt32.toInt32) (((x1c.toUInt32 >>> ((8 : Int32) &&& 31).toUInt32).toInt32 &&& (255 : Int32)).toUInt32.toUInt16.toUInt32.toInt32) (((x1c.toUInt32 >>> ((16 : Int32) &&& 31).toUInt32).toInt32 &&& (255 : Int32)).toUInt32.toUInt16.toUInt32.toInt32)) []) (fun t k => XS.ifYes X0.here hx rfl (pc0 := 29) (pc' := 43) rfl (hb hby d1_29) rfl (by decide) (by decide) (by decide) k) ?_
 refine GoW.sg (mkF m 44 (Sh4 3 x1c ((x1c &&& (255 : Int32)).toUInt32.toUInt16.toUInt32.toInt32) (((x1c.toUInt32 >>> ((8 : Int32) &&& 31).toUInt32).toInt32 &&& (255 : Int32)).toUInt32.toUInt16.toUInt32.toInt32) (((x1c.toUInt32 >>> ((16 : Int32) &&& 31).toUInt32).toInt32 &&& (255 : Int32)).toUInt32.toUInt16.toUInt32.toInt32)) [(.int 3)]) (fun t k => XS.iloadN X0.here hx rfl (hb hby d1_43) rfl k) ?_
 refine GoW.sg (mkF m 45 (Sh4 3 x1c ((x1c &&& (255 : Int32)).toUInt32.toUInt16.toUInt32.toInt32) (((x1c.toUInt32 >>> ((8 : Int32) &&& 31).toUInt32).toInt32 &&& (255 : Int32)).toUInt32.toUInt16.toUInt32.toInt32) (((x1c.toUInt32 >>> ((16 : Int32) &&& 31).toUInt32).toInt32 &&& (255 : Int32)).toUInt32.toUInt16.toUInt32.toInt32)) [(.int 1), (.int 3)]) (fun t k => XS.iconst X0.here hx rfl (hb hby d1_44) k) ?_
 refine GoW.sg (mkF m 63 (Sh4 3 x1c ((x1c &&& (255 : Int32)).toUInt32.toUInt16.toUInt32.toInt32) (((x1c.toUInt32 >>> ((8 : Int32) &&& 31).toUInt32).toInt32 &&& (255 : Int32)).toUInt32.toUInt16.toUInt32.toInt32) (((x1c.toUInt32 >>> ((16 : Int32) &&& 31).toUInt32).toInt32 &&& (255 : Int32)).toUInt32.toUInt16.toUInt32.toInt32)) []) (fun t k => XS.icmpYes X0.here hx rfl (pc0 := 45) (pc' := 63) rfl (hb hby d1_45) rfl (by decide) (by decide) (by decide) k) ?_
 refine GoW.sg (mkF m 64 (Sh4 3 x1c ((x1c &&& (255 : Int32)).toUInt32.toUInt16.toUInt32.toInt32) (((x1c.toUInt32 >>> ((8 : Int32) &&& 31).toUInt32).toInt32 &&& (255 : Int32)).toUInt32.toUInt16.toUInt32.toInt32) (((x1c.toUInt32 >>> ((16 : Int32) &&& 31).toUInt32).toInt32 &&& (255 : Int32)).toUInt32.toUInt16.toUInt32.toInt32)) [(.int 3)]) (fun t k => XS.iloadN X0.here hx rfl (hb hby d1_63) rfl k) ?_
 refine GoW.sg (mkF m 65 (Sh4 3 x1c ((x1c &&& (255 : Int32)).toUInt32.toUInt16.toUInt32.toInt32) (((x1c.toUInt32 >>> ((8 : Int32) &&& 31).toUInt32).toInt32 &&& (255 : Int32)).toUInt32.toUInt16.toUInt32.toInt32) (((x1c.toUInt32 >>> ((16 : Int32) &&& 31).toUInt32).toInt32 &&& (255 : Int32)).toUInt32.toUInt16.toUInt32.toInt32)) [(.int 2), (.int 3)]) (fun t k => XS.iconst X0.here hx rfl (hb hby d1_64) k) ?_
 refine GoW.sg (mkF m 87 (Sh4 3 x1c ((x1c &&& (255 : Int32)).toUInt32.toUInt16.toUInt32.toInt32) (((x1c.toUInt32 >>> ((8 : Int32) &&& 31).toUInt32).toInt32 &&& (255 : Int32)).toUInt32.toUInt16.toUInt32.toInt32) (((x1c.toUInt32 >>> ((16 : Int32) &&& 31).toUInt32).toInt32 &&& (255 : Int32)).toUInt32.toUInt16.toUInt32.toInt32)) []) (fun t k => XS.icmpYes X0.here hx rfl (pc0 := 65) (pc' := 87) rfl (hb hby d1_65) rfl (by decide) (by decide) (by decide) k) ?_
 obtain ⟨T311, h311, X311, e311, E311, A311, D311, -, st311⟩ := newO X0 hx hZ hown (ww hw 5 rfl) (ww hw 6 rfl) (ww hw 7 rfl) e0 (g := (mkF m 87 (Sh4 3 x1c ((x1c &&& (255 : Int32)).toUInt32.toUInt16.toUInt32.toInt32) (((x1c.toUInt32 >>> ((8 : Int32) &&& 31).toUInt32).toInt32 &&& (255 : Int32)).toUInt32.toUInt16.toUInt32.toInt32) (((x1c.toUInt32 >>> ((16 : Int32) &&& 31).toUInt32).toInt32 &&& (255 : Int32)).toUInt32.toUInt16.toUInt32.toInt32)) [])) rfl (hb hby d1_87) (by decide) (by decide)
 obtain ⟨b311, g311⟩ : ∃ z, z = h0.size := ⟨_, rfl⟩
 rw [← g311] at A311 D311 st311
 have g_b311 : n0 ≤ b311 := Nat.le_trans Z0 (Nat.le_of_eq g311.symm)
 have sz_b311 : h0.size ≤ b311 := Nat.le_trans (Keep.refl h0 []).1 (Nat.le_of_eq g311.symm)
 have f311_1 := P0.ext E311
 have f311_2 := (Keep.refl h0 []).ext E311
 have f311_3 := Nat.le_trans Z0 E311.1
 have F311coder : Fld Z h311 b311 "java/lang/String" "coder" "B" (.int (0 : Int32)) := D311 (Or.inr (ww hw 32 rfl)) (ty := .byte) (by decide)
 have F311value : Fld Z h311 b311 "java/lang/String" "value" "[B" .null := D311 (Or.inr (ww hw 34 rfl)) (ty := (.array .byte)) (by decide)
 refine GoW.sg (mkF m 90 (Sh4 3 x1c ((x1c &&& (255 : Int32)).toUInt32.toUInt16.toUInt32.toInt32) (((x1c.toUInt32 >>> ((8 : Int32) &&& 31).toUInt32).toInt32 &&& (255 : Int32)).toUInt32.toUInt16.toUInt32.toInt32) (((x1c.toUInt32 >>> ((16 : Int32) &&& 31).toUInt32).toInt32 &&& (255 : Int32)).toUInt32.toUInt16.toUInt32.toInt32)) [(.ref b311)]) (fun t k => st311 t k) ?_
 refine GoW.sg (mkF m 91 (Sh4 3 x1c ((x1c &&& (255 : Int32)).toUInt32.toUInt16.toUInt32.toInt32) (((x1c.toUInt32 >>> ((8 : Int32) &&& 31).toUInt32).toInt32 &&& (255 : Int32)).toUInt32.toUInt16.toUInt32.toInt32) (((x1c.toUInt32 >>> ((16 : Int32) &&& 31).toUInt32).toInt32 &&& (255 : Int32)).toUInt32.toUInt16.toUInt32.toInt32)) [(.ref b311), (.ref b311)]) (fun t k => XS.dup X311.here hx rfl (hb hby d1_90) rfl rfl k) ?_
 refine GoW.sg (mkF m 92 (Sh4 3 x1c ((x1c &&& (255 : Int32)).toUInt32.toUInt16.toUInt32.toInt32) (((x1c.toUInt32 >>> ((8 : Int32) &&& 31).toUInt32).toInt32 &&& (255 : Int32)).toUInt32.toUInt16.toUInt32.toInt32) (((x1c.toUInt32 >>> ((16 : Int32) &&& 31).toUInt32).toInt32 &&& (255 : Int32)).toUInt32.toUInt16.toUInt32.toInt32)) [(.int 3), (.ref b311), (.ref b311)]) (fun t k => XS.iconst X311.here hx rfl (hb hby d1_91) k) ?_
 obtain ⟨T312, h312, k312, X312, e312, E312, A312, st312⟩ := newP X311 hx hZ (ww hw 8 rfl) e311 (g := (mkF m 92 (Sh4 3 x1c ((x1c &&& (255 : Int32)).toUInt32.toUInt16.toUInt32.toInt32) (((x1c.toUInt32 >>> ((8 : Int32) &&& 31).toUInt32).toInt32 &&& (255 : Int32)).toUInt32.toUInt16.toUInt32.toInt32) (((x1c.toUInt32 >>> ((16 : Int32) &&& 31).toUInt32).toInt32 &&& (255 : Int32)).toUInt32.toUInt16.toUInt32.toInt32)) [(.int 3), (.ref b311), (.ref b311)])) rfl (hb hby d1_92) rfl (by decide) (cap := 3) (by decide) (by decide) (by decide) (by decide)
 obtain ⟨b312, g312⟩ : ∃ z, z = h311.size := ⟨_, rfl⟩
 rw [← g312] at A312 st312
 have g_b312 : n0 ≤ b312 := Nat.le_trans f311_3 (Nat.le_of_eq g312.symm)
 have sz_b312 : h0.size ≤ b312 := Nat.le_trans f311_2.1 (Nat.le_of_eq g312.symm)
 have ne_b311_b312 : b311 ≠ b312 := Nat.ne_of_lt (Nat.lt_of_lt_of_eq A311.lt g312.symm)
 have f312_4 := f311_1.ext E312
 have f312_5 := f311_2.ext E312
 have f312_6 := Nat.le_trans f311_3 E312.1
 have f312_7 := A311.ext E312
 have f312_8 := F311coder.ext E312
 have f312_9 := F311value.ext E312
 have V312 : Arv Z h312 b312 k312 .char (3 : Int32) [(.int (0 : Int32)), (.int (0 : Int32)), (.int (0 : Int32))] (.int (0 : Int32)) := (Arv.new A312 (by decide)).pad (pad_rep [] (.int (0 : Int32)) 3)
 refine GoW.sg (mkF m 94 (Sh4 3 x1c ((x1c &&& (255 : Int32)).toUInt32.toUInt16.toUInt32.toInt32) (((x1c.toUInt32 >>> ((8 : Int32) &&& 31).toUInt32).toInt32 &&& (255 : Int32)).toUInt32.toUInt16.toUInt32.toInt32) (((x1c.toUInt32 >>> ((16 : Int32) &&& 31).toUInt32).toInt32 &&& (255 : Int32)).toUInt32.toUInt16.toUInt32.toInt32)) [(.ref b312), (.ref b311), (.ref b311)]) (fun t k => st312 t k) ?_
 refine GoW.sg (mkF m 95 (Sh4 3 x1c ((x1c &&& (255 : Int32)).toUInt32.toUInt16.toUInt32.toInt32) (((x1c.toUInt32 >>> ((8 : Int32) &&& 31).toUInt32).toInt32 &&& (255 : Int32)).toUInt32.toUInt16.toUInt32.toInt32) (((x1c.toUInt32 >>> ((16 : Int32) &&& 31).toUInt32).toInt32 &&& (255 : Int32)).toUInt32.toUInt16.toUInt32.toInt32)) [(.ref b312), (.ref b312), (.ref b311), (.ref b311)]) (fun t k => XS.dup X312.here hx rfl (hb hby d1_94) rfl rfl k) ?_
 refine GoW.sg (mkF m 96 (Sh4 3 x1c ((x1c &&& (255 : Int32)).toUInt32.toUInt16.toUInt32.toInt32) (((x1c.toUInt32 >>> ((8 : Int32) &&& 31).toUInt32).toInt32 &&& (255 : Int32)).toUInt32.toUInt16.toUInt32.toInt32) (((x1c.toUInt32 >>> ((16 : Int32) &&& 31).toUInt32).toInt32 &&& (255 : Int32)).toUInt32.toUInt16.toUInt32.toInt32)) [(.int 0), (.ref b312), (.ref b312), (.ref b311), (.ref b311)]) (fun t k => XS.iconst X312.here hx rfl (hb hby d1_95) k) ?_
 refine GoW.sg (mkF m 97 (Sh4 3 x1c ((x1c &&& (255 : Int32)).toUInt32.toUInt16.toUInt32.toInt32) (((x1c.toUInt32 >>> ((8 : Int32) &&& 31).toUInt32).toInt32 &&& (255 : Int32)).toUInt32.toUInt16.toUInt32.toInt32) (((x1c.toUInt32 >>> ((16 : Int32) &&& 31).toUInt32).toInt32 &&& (255 : Int32)).toUInt32.toUInt16.toUInt32.toInt32)) [(.int (x1c &&& (255 : Int32)).toUInt32.toUInt16.toUInt32.toInt32), (.int 0), (.ref b312), (.ref b312), (.ref b311), (.ref b311)]) (fun t k => XS.iloadN X312.here hx rfl (hb hby d1_96) rfl k) ?_
 obtain ⟨cl313, Ar313, q313, Sz313, Nn313, Hh313, Gg313⟩ := V312
 have hin313 : ¬ ((0 : Int32) < 0 ∨ cl313.slots.size ≤ ((0 : Int32)).toNatClampNeg) := inb_of Sz313 ⟨by decide, by decide⟩
 obtain ⟨T313, h313, X313, e313, W313, st313⟩ := stC X312 hx hZ e312 Ar313 (j := (0 : Int32)) hin313 (g := (mkF m 97 (Sh4 3 x1c ((x1c &&& (255 : Int32)).toUInt32.toUInt16.toUInt32.toInt32) (((x1c.toUInt32 >>> ((8 : Int32) &&& 31).toUInt32).toInt32 &&& (255 : Int32)).toUInt32.toUInt16.toUInt32.toInt32) (((x1c.toUInt32 >>> ((16 : Int32) &&& 31).toUInt32).toInt32 &&& (255 : Int32)).toUInt32.toUInt16.toUInt32.toInt32)) [(.int (x1c &&& (255 : Int32)).toUInt32.toUInt16.toUInt32.toInt32), (.int 0), (.ref b312), (.ref b312), (.ref b311), (.ref b311)])) rfl rfl (hb hby d1_97)
 have f313_10 := f312_4.wr W313
 have f313_11 := f312_5.wr W313 (Or.inr sz_b312)
 have f313_12 := Nat.le_trans f312_6 (Nat.le_of_eq W313.size.symm)
 have f313_13 := f312_7.wr W313
 have f313_14 := f312_8.other W313 (Or.inl ne_b311_b312)
 have f313_15 := f312_9.other W313 (Or.inl ne_b311_b312)
 have V313 : Arv Z h313 b312 k312 .char (3 : Int32) [(.int (chA x1c)), (.int (0 : Int32)), (.int (0 : Int32))] (.int (0 : Int32)) := Arv.set Ar313 q313 Sz313 Nn313 Hh313 Gg313 (fits_nar_char _) W313 0 rfl (Nat.le_of_ble_eq_true rfl)
 have N313 := Fr.snoc X313 N0 g_b312
 refine GoW.sg (mkF m 98 (Sh4 3 x1c ((x1c &&& (255 : Int32)).toUInt32.toUInt16.toUInt32.toInt32) (((x1c.toUInt32 >>> ((8 : Int32) &&& 31).toUInt32).toInt32 &&& (255 : Int32)).toUInt32.toUInt16.toUInt32.toInt32) (((x1c.toUInt32 >>> ((16 : Int32) &&& 31).toUInt32).toInt32 &&& (255 : Int32)).toUInt32.toUInt16.toUInt32.toInt32)) [(.ref b312), (.ref b311), (.ref b311)]) (fun t k => st313 t k) ?_
 refine GoW.sg (mkF m 99 (Sh4 3 x1c ((x1c &&& (255 : Int32)).toUInt32.toUInt16.toUInt32.toInt32) (((x1c.toUInt32 >>> ((8 : Int32) &&& 31).toUInt32).toInt32 &&& (255 : Int32)).toUInt32.toUInt16.toUInt32.toInt32) (((x1c.toUInt32 >>> ((16 : Int32) &&& 31).toUInt32).toInt32 &&& (255 : Int32)).toUInt32.toUInt16.toUInt32.toInt32)) [(.ref b312), (.ref b312), (.ref b311), (.ref b311)]) (fun t k => XS.dup X313.here hx rfl (hb hby d1_98) rfl rfl k) ?_
 refine GoW.sg (mkF m 100 (Sh4 3 x1c ((x1c &&& (255 : Int32)).toUInt32.toUInt16.toUInt32.toInt32) (((x1c.toUInt32 >>> ((8 : Int32) &&& 31).toUInt32).toInt32 &&& (255 : Int32)).toUInt32.toUInt16.toUInt32.toInt32) (((x1c.toUInt32 >>> ((16 : Int32) &&& 31).toUInt32).toInt32 &&& (255 : Int32)).toUInt32.toUInt16.toUInt32.toInt32)) [(.int 1), (.ref b312), (.ref b312), (.ref b311), (.ref b311)]) (fun t k => XS.iconst X313.here hx rfl (hb hby d1_99) k) ?_
 refine GoW.sg (mkF m 101 (Sh4 3 x1c ((x1c &&& (255 : Int32)).toUInt32.toUInt16.toUInt32.toInt32) (((x1c.toUInt32 >>> ((8 : Int32) &&& 31).toUInt32).toInt32 &&& (255 : Int32)).toUInt32.toUInt16.toUInt32.toInt32) (((x1c.toUInt32 >>> ((16 : Int32) &&& 31).toUInt32).toInt32 &&& (255 : Int32)).toUInt32.toUInt16.toUInt32.toInt32)) [(.int ((x1c.toUInt32 >>> ((8 : Int32) &&& 31).toUInt32).toInt32 &&& (255 : Int32)).toUInt32.toUInt16.toUInt32.toInt32), (.int 1), (.ref b312), (.ref b312), (.ref b311), (.ref b311)]) (fun t k => XS.iloadN X313.here hx rfl (hb hby d1_100) rfl k) ?_
 obtain ⟨cl314, Ar314, q314, Sz314, Nn314, Hh314, Gg314⟩ := V313
 have hin314 : ¬ ((1 : Int32) < 0 ∨ cl314.slots.size ≤ ((1 : Int32)).toNatClampNeg) := inb_of Sz314 ⟨by decide, by decide⟩
 obtain ⟨T314, h314, X314, e314, W314, st314⟩ := stC X313 hx hZ e313 Ar314 (j := (1 : Int32)) hin314 (g := (mkF m 101 (Sh4 3 x1c ((x1c &&& (255 : Int32)).toUInt32.toUInt16.toUInt32.toInt32) (((x1c.toUInt32 >>> ((8 : Int32) &&& 31).toUInt32).toInt32 &&& (255 : Int32)).toUInt32.toUInt16.toUInt32.toInt32) (((x1c.toUInt32 >>> ((16 : Int32) &&& 31).toUInt32).toInt32 &&& (255 : Int32)).toUInt32.toUInt16.toUInt32.toInt32)) [(.int ((x1c.toUInt32 >>> ((8 : Int32) &&& 31).toUInt32).toInt32 &&& (255 : Int32)).toUInt32.toUInt16.toUInt32.toInt32), (.int 1), (.ref b312), (.ref b312), (.ref b311), (.ref b311)])) rfl rfl (hb hby d1_101)
 have f314_16 := f313_10.wr W314
 have f314_17 := f313_11.wr W314 (Or.inr sz_b312)
 have f314_18 := Nat.le_trans f313_12 (Nat.le_of_eq W314.size.symm)
 have f314_19 := f313_13.wr W314
 have f314_20 := f313_14.other W314 (Or.inl ne_b311_b312)
 have f314_21 := f313_15.other W314 (Or.inl ne_b311_b312)
 have V314 : Arv Z h314 b312 k312 .char (3 : Int32) [(.int (chA x1c)), (.int (chB x1c)), (.int (0 : Int32))] (.int (0 : Int32)) := Arv.set Ar314 q314 Sz314 Nn314 Hh314 Gg314 (fits_nar_char _) W314 1 rfl (Nat.le_of_ble_eq_true rfl)
 have N314 := Fr.snoc X314 N313 g_b312
 refine GoW.sg (mkF m 102 (Sh4 3 x1c ((x1c &&& (255 : Int32)).toUInt32.toUInt16.toUInt32.toInt32) (((x1c.toUInt32 >>> ((8 : Int32) &&& 31).toUInt32).toInt32 &&& (255 : Int32)).toUInt32.toUInt16.toUInt32.toInt32) (((x1c.toUInt32 >>> ((16 : Int32) &&& 31).toUInt32).toInt32 &&& (255 : Int32)).toUInt32.toUInt16.toUInt32.toInt32)) [(.ref b312), (.ref b311), (.ref b311)]) (fun t k => st314 t k) ?_
 refine GoW.sg (mkF m 103 (Sh4 3 x1c ((x1c &&& (255 : Int32)).toUInt32.toUInt16.toUInt32.toInt32) (((x1c.toUInt32 >>> ((8 : Int32) &&& 31).toUInt32).toInt32 &&& (255 : Int32)).toUInt32.toUInt16.toUInt32.toInt32) (((x1c.toUInt32 >>> ((16 : Int32) &&& 31).toUInt32).toInt32 &&& (255 : Int32)).toUInt32.toUInt16.toUInt32.toInt32)) [(.ref b312), (.ref b312), (.ref b311), (.ref b311)]) (fun t k => XS.dup X314.here hx rfl (hb hby d1_102) rfl rfl k) ?_
 refine GoW.sg (mkF m 104 (Sh4 3 x1c ((x1c &&& (255 : Int32)).toUInt32.toUInt16.toUInt32.toInt32) (((x1c.toUInt32 >>> ((8 : Int32) &&& 31).toUInt32).toInt32 &&& (255 : Int32)).toUInt32.toUInt16.toUInt32.toInt32) (((x1c.toUInt32 >>> ((16 : Int32) &&& 31).toUInt32).toInt32 &&& (255 : Int32)).toUInt32.toUInt16.toUInt32.toInt32)) [(.int 2), (.ref b312), (.ref b312), (.ref b311), (.ref b311)]) (fun t k => XS.iconst X314.here hx rfl (hb hby d1_103) k) ?_
 refine GoW.sg (mkF m 106 (Sh4 3 x1c ((x1c &&& (255 : Int32)).toUInt32.toUInt16.toUInt32.toInt32) (((x1c.toUInt32 >>> ((8 : Int32) &&& 31).toUInt32).toInt32 &&& (255 : Int32)).toUInt32.toUInt16.toUInt32.toInt32) (((x1c.toUInt32 >>> ((16 : Int32) &&& 31).toUInt32).toInt32 &&& (255 : Int32)).toUInt32.toUInt16.toUInt32.toInt32)) [(.int ((x1c.toUInt32 >>> ((16 : Int32) &&& 31).toUInt32).toInt32 &&& (255 : Int32)).toUInt32.toUInt16.toUInt32.toInt32), (.int 2), (.ref b312), (.ref b312), (.ref b311), (.ref b311)]) (fun t k => XS.iload X314.here hx rfl (hb hby d1_104) rfl k) ?_
 obtain ⟨cl315, Ar315, q315, Sz315, Nn315, Hh315, Gg315⟩ := V314
 have hin315 : ¬ ((2 : Int32) < 0 ∨ cl315.slots.size ≤ ((2 : Int32)).toNatClampNeg) := inb_of Sz315 ⟨by decide, by decide⟩
 obtain ⟨T315, h315, X315, e315, W315, st315⟩ := stC X314 hx hZ e314 Ar315 (j := (2 : Int32)) hin315 (g := (mkF m 106 (Sh4 3 x1c ((x1c &&& (255 : Int32)).toUInt32.toUInt16.toUInt32.toInt32) (((x1c.toUInt32 >>> ((8 : Int32) &&& 31).toUInt32).toInt32 &&& (255 : Int32)).toUInt32.toUInt16.toUInt32.toInt32) (((x1c.toUInt32 >>> ((16 : Int32) &&& 31).toUInt32).toInt32 &&& (255 : Int32)).toUInt32.toUInt16.toUInt32.toInt32)) [(.int ((x1c.toUInt32 >>> ((16 : Int32) &&& 31).toUInt32).toInt32 &&& (255 : Int32)).toUInt32.toUInt16.toUInt32.toInt32), (.int 2), (.ref b312), (.ref b312), (.ref b311), (.ref b311)])) rfl rfl (hb hby d1_106)
 have f315_22 := f314_16.wr W315
 have f315_23 := f314_17.wr W315 (Or.inr sz_b312)
 have f315_24 := Nat.le_trans f314_18 (Nat.le_of_eq W315.size.symm)
 have f315_25 := f314_19.wr W315
 have f315_26 := f314_20.other W315 (Or.inl ne_b311_b312)
 have f315_27 := f314_21.other W315 (Or.inl ne_b311_b312)
 have V315 : Arv Z h315 b312 k312 .char (3 : Int32) [(.int (chA x1c)), (.int (chB x1c)), (.int (chC x1c))] (.int (0 : Int32)) := Arv.set Ar315 q315 Sz315 Nn315 Hh315 Gg315 (fits_nar_char _) W315 2 rfl (Nat.le_of_ble_eq_true rfl)
 have N315 := Fr.snoc X315 N314 g_b312
 refine GoW.sg (mkF m 107 (Sh4 3 x1c ((x1c &&& (255 : Int32)).toUInt32.toUInt16.toUInt32.toInt32) (((x1c.toUInt32 >>> ((8 : Int32) &&& 31).toUInt32).toInt32 &&& (255 : Int32)).toUInt32.toUInt16.toUInt32.toInt32) (((x1c.toUInt32 >>> ((16 : Int32) &&& 31).toUInt32).toInt32 &&& (255 : Int32)).toUInt32.toUInt16.toUInt32.toInt32)) [(.ref b312), (.ref b311), (.ref b311)]) (fun t k => st315 t k) ?_
 obtain ⟨_, _, ⟨T332, L332, k332, n332⟩, -, X332, ⟨Lc332, hQ332, l332, y332, z332⟩, st332⟩ := X315.specialBack hx (y := Y2) rfl hown (mvT hZ (ww hw 9 rfl)) (mvT hZ (ww hw 10 rfl)) (mvT hZ (ww hw 11 rfl)) (by decide) (backOf (W := 1) (rm2_32 l Z a0 hw [] b311 b312 k312 (chA x1c) (chB x1c) (chC x1c) x2c h315 n0 f315_24 f315_25 f315_26 f315_27 V315 f315_22 g_b311  u0 hiA hiB hiC ) hZ (ww hw 11 rfl) (ww hw 7 rfl) (by decide) (by decide)) (g := (mkF m 107 (Sh4 3 x1c ((x1c &&& (255 : Int32)).toUInt32.toUInt16.toUInt32.toInt32) (((x1c.toUInt32 >>> ((8 : Int32) &&& 31).toUInt32).toInt32 &&& (255 : Int32)).toUInt32.toUInt16.toUInt32.toInt32) (((x1c.toUInt32 >>> ((16 : Int32) &&& 31).toUInt32).toInt32 &&& (255 : Int32)).toUInt32.toUInt16.toUInt32.toInt32)) [(.ref b312), (.ref b311), (.ref b311)])) rfl (by rw [hml]; rfl) (Steps.refl _) (a := b311) (argsL := [(.ref b312)]) (rest := [(.ref b311)]) (lenOf pd_285bC29V rfl) rfl (by show 2 * 0 + _ ≤ _; exact Nat.le_of_eq rfl) (hb hby d1_107) (fun _ _ => ⟨rfl, e315, (by decide : 2 + 1 ≤ _), (by decide : 7 + 3 ≤ _)⟩)
 dsimp only [Pt.U, Pt.locs, Pt.cells, Pt.slots] at X332 l332 y332 z332 st332 hQ332
 subst l332 y332 z332
 obtain ⟨b332_e0, k332_ke0, rfl, N332q, K332, p332_0, p332_1, p332_2, p332_3, hz_b332_e0⟩ := hQ332
 have sz_b332_e0 : h0.size ≤ b332_e0 := Nat.le_trans f315_23.1 hz_b332_e0
 have N332 := Fr.app N315 N332q
 have f332_29 := f315_23.trans K332 (allS (Or.inr sz_b311) all0)
 refine GoW.sg (mkF m 110 (Sh4 3 x1c ((x1c &&& (255 : Int32)).toUInt32.toUInt16.toUInt32.toInt32) (((x1c.toUInt32 >>> ((8 : Int32) &&& 31).toUInt32).toInt32 &&& (255 : Int32)).toUInt32.toUInt16.toUInt32.toInt32) (((x1c.toUInt32 >>> ((16 : Int32) &&& 31).toUInt32).toInt32 &&& (255 : Int32)).toUInt32.toUInt16.toUInt32.toInt32)) [(.ref b311)]) (fun t k => st332.trans k) ?_
 refine GoW.retA X332 hx Bd.returns rfl rfl rfl (hb hby d1_110) Bd.notSynchronized ?_ (by decide) (by decide)
 exact ⟨b311, b332_e0, k332_ke0, rfl, N332, f332_29, p332_0, p332_1, p332_2, p332_3, sz_b311, sz_b332_e0⟩
def Q8_34 (Z : State) (a1c : Addr) (a2c : Addr) (h0 : Heap) (n0 : Nat) (v : Option Value) (h : Heap) (L : List Loc) : Prop := v = none ∧ Fr n0 L ∧ (Keep h0 h [a1c]) ∧ (Exa Z h a1c "com/example/relaystack/relaystack/CommandLine$Option") ∧ (Fld Z h a1c "com/example/relaystack/relaystack/CommandLine$Option" "given" "Ljava/lang/String;" (.ref a2c)) ∧ (Fld Z h a1c "com/example/relaystack/relaystack/CommandLine$Option" "name" "Ljava/lang/String;" .null)
theorem ef8_rm8_34 (m : MethodId) (a1c : Addr) (a2c : Addr) : entryFrame m #[(.ref a1c), .null, (.ref a2c)] 3 = (mkF m 0 #[.val (.ref a1c), .val .null, .val (.ref a2c)] []) := by first | (simp [entryFrame, mkF, argsToLocals, Value.category, maxLocals]; done) | rfl
set_option maxRecDepth 65536 in
set_option maxHeartbeats 40000000 in
theorem rm8_34 (l : Launch) (Z : State) (a0 : Array Value) (hw : ∀ d ∈ tables_1, d.before a0 Z = true) (ws : List Jvm.Cond) (a1c : Addr) (a2c : Addr)  (h0 : Heap) (n0 : Nat) (P0 : Exa Z h0 a1c "com/example/relaystack/relaystack/CommandLine$Option") (P1 : Fld Z h0 a1c "com/example/relaystack/relaystack/CommandLine$Option" "given" "Ljava/lang/String;" .null) (P2 : Fld Z h0 a1c "com/example/relaystack/relaystack/CommandLine$Option" "name" "Ljava/lang/String;" .null) (g_a1c : n0 ≤ a1c)     :
    MetFree l Y8 (head1 (Jvm.Cond.code Y8 prog_8_method_1_code 3 none :: ws) ({ frames := 2, cells := 0, slots := 0, locals := 24 } : Room)) (fun a U => a = #[(.ref a1c), .null, (.ref a2c)] ∧ Z.Warmed39 U.vm ∧ U.heap = h0) (fun _ _ _ _ _ => True) (fun _ U o U' => ∃ v L, o = .returned v ∧ (Q8_34 Z a1c a2c h0 n0) v U'.heap L ∧ FrameEnd U o U' L 0 0) := by
 refine MetFree.of_bodySF (plainFor_of_name pn_com_example_relaystack_relaystack_CommandLine_Option) hisR ?_
 intro p e s m args below meth c s₁ Bd hml0 hP hK
 obtain ⟨rfl, hZ, hh⟩ := hP
 have hx := Bd.exec
 have hby := Bd.bytes
 have hml : c.maxLocals = 3 := hml0
 have hown : s.vm.findClass "com/example/relaystack/relaystack/CommandLine$Option" = some m.cls := findClass_of_methodNamed Bd.named
 have hnm := (name_of_methodNamed Bd.named Bd.method).1
 have X0 : Stand p l e ({ frames := 2, cells := 0, slots := 0, locals := 24 } : Room) s m #[(.ref a1c), .null, (.ref a2c)] below meth c s₁ [] 0 0 := Stand.of_body Bd
 have e0 : s₁.heap = h0 := by rw [← hh, Bd.state]; rfl
 have N0 := Fr.nil n0
 refine GoW.mk ?_
 refine GoW.st (fun t k => castTop (ef8_rm8_34 m a1c a2c) k) ?_
 show GoW p e below s (Q8_34 Z a1c a2c h0 n0) 0 0 (s₁.setTop (mkF m 0 (Sh23 a1c a2c) []))
 refine GoW.sg (mkF m 1 (Sh23 a1c a2c) [(.ref a1c)]) (fun t k => XS.aloadN X0.here hx rfl (hb hby d8_0) rfl rfl k) ?_
 obtain ⟨_, _, ⟨T344, L344, k344, n344⟩, -, X344, ⟨Lc344, hQ344, l344, y344, z344⟩, st344⟩ := X0.specialBack hx (y := Y9) rfl hown (mvT hZ (ww hw 41 rfl)) (mvT hZ (ww hw 42 rfl)) (mvT hZ (ww hw 45 rfl)) (by decide) (backOf (W := 0) (rm9_7 l Z a0 hw [] a1c  h0 n0      ) hZ (ww hw 45 rfl) (ww hw 44 rfl) (by decide) (by decide)) (g := (mkF m 1 (Sh23 a1c a2c) [(.ref a1c)])) rfl (by rw [hml]; rfl) (Steps.refl _) (a := a1c) (argsL := []) (rest := []) (lenOf pd_2829V rfl) rfl (by show 2 * 0 + _ ≤ _; exact Nat.le_of_eq rfl) (hb hby d8_1) (fun _ _ => ⟨rfl, e0, (by decide : 0 + 0 ≤ _), (by decide : 0 + 0 ≤ _)⟩)
 dsimp only [Pt.U, Pt.locs, Pt.cells, Pt.slots] at X344 l344 y344 z344 st344 hQ344
 subst l344 y344 z344
 obtain ⟨rfl, N344q, e344⟩ := hQ344
 have N344 := Fr.app N0 N344q
 refine GoW.sg (mkF m 4 (Sh23 a1c a2c) []) (fun t k => st344.trans k) ?_
 refine GoW.sg (mkF m 5 (Sh23 a1c a2c) [(.ref a1c)]) (fun t k => XS.aloadN X344.here hx rfl (hb hby d8_4) rfl rfl k) ?_
 refine GoW.sg (mkF m 6 (Sh23 a1c a2c) [.null, (.ref a1c)]) (fun t k => XS.aloadN X344.here hx rfl (hb hby d8_5) rfl rfl k) ?_
 obtain ⟨T345, h345, X345, e345, W345, st345⟩ := putF X344 hx hZ hown (host := "") (Or.inl (ww hw 47 rfl)) Via.refl e344 P2 P0 (Or.inr ⟨(ww hw 48 rfl), rfl, hnm⟩) (ww hw 36 rfl) (ty := (.object "java/lang/String")) (by decide) rfl rfl (g := (mkF m 6 (Sh23 a1c a2c) [.null, (.ref a1c)])) rfl rfl (hb hby d8_6)
 have N345 := Fr.snoc X345 N344 g_a1c
 have f345_1 := P0.wr W345
 have f345_2 := P1.other W345 (Or.inr (slot_ne (t := (.object "java/lang/String")) (t' := (.object "java/lang/String")) (Or.inr (ww hw 50 rfl)) (Or.inr (ww hw 48 rfl)) (by decide) (by decide) (by decide)))
 have f345_3 := (Keep.refl h0 [a1c]).wr W345 (Or.inl (List.mem_of_getElem? (i := 0) rfl))
 have F345name : Fld Z h345 a1c "com/example/relaystack/relaystack/CommandLine$Option" "name" "Ljava/lang/String;" .null := P2.same W345
 refine GoW.sg (mkF m 9 (Sh23 a1c a2c) []) (fun t k => st345 t k) ?_
 refine GoW.sg (mkF m 10 (Sh23 a1c a2c) [(.ref a1c)]) (fun t k => XS.aloadN X345.here hx rfl (hb hby d8_9) rfl rfl k) ?_
 refine GoW.sg (mkF m 11 (Sh23 a1c a2c) [(.ref a2c), (.ref a1c)]) (fun t k => XS.aloadN X345.here hx rfl (hb hby d8_10) rfl rfl k) ?_
 obtain ⟨T346, h346, X346, e346, W346, st346⟩ := putF X345 hx hZ hown (host := "") (Or.inl (ww hw 49 rfl)) Via.refl e345 f345_2 f345_1 (Or.inr ⟨(ww hw 50 rfl), rfl, hnm⟩) (ww hw 36 rfl) (ty := (.object "java/lang/String")) (by decide) rfl rfl (g := (mkF m 11 (Sh23 a1c a2c) [(.ref a2c), (.ref a1c)])) rfl rfl (hb hby d8_11)
 have N346 := Fr.snoc X346 N345 g_a1c
 have f346_4 := f345_1.wr W346
 have f346_5 := F345name.other W346 (Or.inr (slot_ne (t := (.object "java/lang/String")) (t' := (.object "java/lang/String")) (Or.inr (ww hw 48 rfl)) (Or.inr (ww hw 50 rfl)) (by decide) (by decide) (by decide)))
 have f346_6 := f345_3.wr W346 (Or.inl (List.mem_of_getElem? (i := 0) rfl))
 have F346given : Fld Z h346 a1c "com/example/relaystack/relaystack/CommandLine$Option" "given" "Ljava/lang/String;" (.ref a2c) := f345_2.same W346
 refine GoW.sg (mkF m 14 (Sh23 a1c a2c) []) (fun t k => st346 t k) ?_
 refine GoW.retV X346 hx Bd.returns (hb hby d8_14) Bd.notSynchronized ?_ (by decide) (by decide)
 rw [e346]
 exact ⟨rfl, N346, f346_6, f346_4, F346given, f346_5⟩
def Q11_35 (Z : State) (a1c : Addr) (a2c : Addr) (ka2c : ClassId) (x1c : Int32) (x2c : Int32) (h0 : Heap) (n0 : Nat) (v : Option Value) (h : Heap) (L : List Loc) : Prop := v = some (.int (0 : Int32)) ∧ Fr n0 L ∧ (h = h0)
theorem ef11_rm11_35 (m : MethodId) (a1c : Addr) : entryFrame m #[(.ref a1c)] 1 = (mkF m 0 #[.val (.ref a1c)] []) := by first | (simp [entryFrame, mkF, argsToLocals, Value.category, maxLocals]; done) | rfl
set_option maxRecDepth 65536 in
set_option maxHeartbeats 40000000 in
theorem rm11_35 (l : Launch) (Z : State) (a0 : Array Value) (hw : ∀ d ∈ tables_1, d.before a0 Z = true) (ws : List Jvm.Cond) (a1c : Addr) (a2c : Addr) (ka2c : ClassId) (x1c : Int32) (x2c : Int32) (h0 : Heap) (n0 : Nat) (P0 : Fld Z h0 a1c "java/lang/String" "value" "[B" (.ref a2c)) (P1 : Arv Z h0 a2c ka2c .byte (2 : Int32) [(.int x1c), (.int x2c)] (.int (0 : Int32)))      :
    MetFree l Y11 (head1 (Jvm.Cond.code Y11 jdk_42_method_55_code 1 (some .boolean) :: ws) ({ frames := 0, cells := 0, slots := 0, locals := 0 } : Room)) (fun a U => a = #[(.ref a1c)] ∧ Z.Warmed39 U.vm ∧ U.heap = h0) (fun _ _ _ _ _ => True) (fun _ U o U' => ∃ v L, o = .returned v ∧ (Q11_35 Z a1c a2c ka2c x1c x2c h0 n0) v U'.heap L ∧ FrameEnd U o U' L 0 0) := by
 refine MetFree.of_bodySF (plainFor_of_name pn_java_lang_String) hisR ?_
 intro p e s m args below meth c s₁ Bd hml0 hP hK
 obtain ⟨rfl, hZ, hh⟩ := hP
 have hx := Bd.exec
 have hby := Bd.bytes
 have hml : c.maxLocals = 1 := hml0
 have hown : s.vm.findClass "java/lang/String" = some m.cls := findClass_of_methodNamed Bd.named
 have hnm := (name_of_methodNamed Bd.named Bd.method).1
 have X0 : Stand p l e ({ frames := 0, cells := 0, slots := 0, locals := 0 } : Room) s m #[(.ref a1c)] below meth c s₁ [] 0 0 := Stand.of_body Bd
 have e0 : s₁.heap = h0 := by rw [← hh, Bd.state]; rfl
 have N0 := Fr.nil n0
 refine GoW.mk ?_
 refine GoW.st (fun t k => castTop (ef11_rm11_35 m a1c) k) ?_
 show GoW p e below s (Q11_35 Z a1c a2c ka2c x1c x2c h0 n0) 0 0 (s₁.setTop (mkF m 0 #[.val (.ref a1c)] []))
 refine GoW.sg (mkF m 1 #[.val (.ref a1c)] [(.ref a1c)]) (fun t k => XS.aloadN X0.here hx rfl (hb hby d11_0) rfl rfl k) ?_
 obtain ⟨T368, X368, e368, st368⟩ := getF X0 hx hZ hown (host := "") (Or.inl (ww hw 33 rfl)) Via.refl e0 P0 (g := (mkF m 1 #[.val (.ref a1c)] [(.ref a1c)])) rfl rfl (hb hby d11_1)
 refine GoW.sg (mkF m 4 #[.val (.ref a1c)] [(.ref a2c)]) (fun t k => st368 t k) ?_
 obtain ⟨cl369, Ar369, q369, Sz369, Nn369, Hh369, Gg369⟩ := id P1
 have st369 := X368.arraylength hx (hq_ e368 Ar369.1) (State.isArrayOf_alike hZ.alike Ar369.2.1) (g := (mkF m 4 #[.val (.ref a1c)] [(.ref a2c)])) rfl rfl (hb hby d11_4)
 rw [len_of Sz369 Nn369] at st369
 refine GoW.sg (mkF m 5 #[.val (.ref a1c)] [(.int 2)]) (fun t k => st369 t k) ?_
 refine GoW.sg (mkF m 12 #[.val (.ref a1c)] []) (fun t k => XS.ifYes X368.here hx rfl (pc0 := 5) (pc' := 12) rfl (hb hby d11_5) rfl (by decide) (by decide) (by decide) k) ?_
 refine GoW.sg (mkF m 13 #[.val (.ref a1c)] [(.int 0)]) (fun t k => XS.iconst X368.here hx rfl (hb hby d11_12) k) ?_
 refine GoW.retN X368 hx (t := .boolean) Bd.returns (by simp) (hb hby d11_13) Bd.notSynchronized ?_ (by decide) (by decide)
 rw [e368]
 exact ⟨rfl, N0, rfl⟩
def Q10_36 (Z : State) (a1c : Addr) (a2c : Addr) (a3c : Addr) (ka3c : ClassId) (x1c : Int32) (x2c : Int32) (h0 : Heap) (n0 : Nat) (v : Option Value) (h : Heap) (L : List Loc) : Prop := v = some (.ref a2c) ∧ Fr n0 L ∧ (h = h0)
theorem ef10_rm10_36 (m : MethodId) (a1c : Addr) : entryFrame m #[(.ref a1c)] 1 = (mkF m 0 #[.val (.ref a1c)] []) := by first | (simp [entryFrame, mkF, argsToLocals, Value.category, maxLocals]; done) | rfl
set_option maxRecDepth 65536 in
set_option maxHeartbeats 40000000 in
theorem rm10_36 (l : Launch) (Z : State) (a0 : Array Value) (hw : ∀ d ∈ tables_1, d.before a0 Z = true) (ws : List Jvm.Cond) (a1c : Addr) (a2c : Addr) (a3c : Addr) (ka3c : ClassId) (x1c : Int32) (x2c : Int32) (h0 : Heap) (n0 : Nat) (P0 : Exa Z h0 a2c "java/lang/String") (P1 : Fld Z h0 a1c "com/example/relaystack/relaystack/CommandLine$Option" "given" "Ljava/lang/String;" (.ref a2c)) (P2 : Fld Z h0 a2c "java/lang/String" "value" "[B" (.ref a3c)) (P3 : Arv Z h0 a3c ka3c .byte (2 : Int32) [(.int x1c), (.int x2c)] (.int (0 : Int32)))      :
    MetFree l Y10 (head1 (Jvm.Cond.code Y10 prog_8_method_2_code 1 (some (.object "java/lang/String")) :: ws) ({ frames := 1, cells := 0, slots := 0, locals := 12 } : Room)) (fun a U => a = #[(.ref a1c)] ∧ Z.Warmed39 U.vm ∧ U.heap = h0) (fun _ _ _ _ _ => True) (fun _ U o U' => ∃ v L, o = .returned v ∧ (Q10_36 Z a1c a2c a3c ka3c x1c x2c h0 n0) v U'.heap L ∧ FrameEnd U o U' L 0 0) := by
 refine MetFree.of_bodySF (plainFor_of_name pn_com_example_relaystack_relaystack_CommandLine_Option) hisR ?_
 intro p e s m args below meth c s₁ Bd hml0 hP hK
 obtain ⟨rfl, hZ, hh⟩ := hP
 have hx := Bd.exec
 have hby := Bd.bytes
 have hml : c.maxLocals = 1 := hml0
 have hown : s.vm.findClass "com/example/relaystack/relaystack/CommandLine$Option" = some m.cls := findClass_of_methodNamed Bd.named
 have hnm := (name_of_methodNamed Bd.named Bd.method).1
 have X0 : Stand p l e ({ frames := 1, cells := 0, slots := 0, locals := 12 } : Room) s m #[(.ref a1c)] below meth c s₁ [] 0 0 := Stand.of_body Bd
 have e0 : s₁.heap = h0 := by rw [← hh, Bd.state]; rfl
 have N0 := Fr.nil n0
 refine GoW.mk ?_
 refine GoW.st (fun t k => castTop (ef10_rm10_36 m a1c) k) ?_
 show GoW p e below s (Q10_36 Z a1c a2c a3c ka3c x1c x2c h0 n0) 0 0 (s₁.setTop (mkF m 0 #[.val (.ref a1c)] []))
 refine GoW.sg (mkF m 1 #[.val (.ref a1c)] [(.ref a1c)]) (fun t k => XS.aloadN X0.here hx rfl (hb hby d10_0) rfl rfl k) ?_
 obtain ⟨T372, X372, e372, st372⟩ := getF X0 hx hZ hown (host := "") (Or.inl (ww hw 49 rfl)) Via.refl e0 P1 (g := (mkF m 1 #[.val (.ref a1c)] [(.ref a1c)])) rfl rfl (hb hby d10_1)
 refine GoW.sg (mkF m 4 #[.val (.ref a1c)] [(.ref a2c)]) (fun t k => st372 t k) ?_
 refine GoW.sg (mkF m 7 #[.val (.ref a1c)] []) (fun t k => XS.ifnullNo X372.here hx rfl (hb hby d10_4) rfl k) ?_
 refine GoW.sg (mkF m 8 #[.val (.ref a1c)] [(.ref a1c)]) (fun t k => XS.aloadN X372.here hx rfl (hb hby d10_7) rfl rfl k) ?_
 obtain ⟨T373, X373, e373, st373⟩ := getF X372 hx hZ hown (host := "") (Or.inl (ww hw 49 rfl)) Via.refl e372 P1 (g := (mkF m 8 #[.val (.ref a1c)] [(.ref a1c)])) rfl rfl (hb hby d10_8)
 refine GoW.sg (mkF m 11 #[.val (.ref a1c)] [(.ref a2c)]) (fun t k => st373 t k) ?_
 obtain ⟨cq376, kq376, q376a, q376b, q376c⟩ := isOf hZ e373 P0
 obtain ⟨_, _, ⟨T376, L376, k376, n376⟩, -, X376, ⟨Lc376, hQ376, l376, y376, z376⟩, st376⟩ := X373.virtualBack hx (y := Y11) (z := Y11) hown (mvT hZ (ww hw 56 rfl)) (mvT hZ (ww hw 57 rfl)) (notFace_of_selects (args := #[]) (mvT hZ (ww hw 59 rfl))) (mvT hZ (ww hw 59 rfl)) (mvT hZ (ww hw 58 rfl)) (by decide) (backOf (W := 0) (rm11_35 l Z a0 hw [] a2c a3c ka3c x1c x2c h0 n0  P2 P3    ) hZ (ww hw 60 rfl) (ww hw 7 rfl) (by decide) (by decide)) q376a q376c (g := (mkF m 11 #[.val (.ref a1c)] [(.ref a2c)])) rfl (by rw [hml]; rfl) (Steps.refl _) (argsL := []) (rest := []) (lenOf pd_2829Z rfl) rfl (by show 2 * 0 + _ ≤ _; exact Nat.le_of_eq rfl) (hb hby d10_11) (fun _ _ => ⟨rfl, e373, (by decide : 0 + 0 ≤ _), (by decide : 0 + 0 ≤ _)⟩)
 dsimp only [Pt.U, Pt.locs, Pt.cells, Pt.slots] at X376 l376 y376 z376 st376 hQ376
 subst l376 y376 z376
 obtain ⟨rfl, N376q, e376⟩ := hQ376
 have N376 := Fr.app N0 N376q
 refine GoW.sg (mkF m 14 #[.val (.ref a1c)] [(.int 0)]) (fun t k => st376.trans k) ?_
 refine GoW.sg (mkF m 34 #[.val (.ref a1c)] []) (fun t k => XS.ifYes X376.here hx rfl (pc0 := 14) (pc' := 34) rfl (hb hby d10_14) rfl (by decide) (by decide) (by decide) k) ?_
 refine GoW.sg (mkF m 35 #[.val (.ref a1c)] [(.ref a1c)]) (fun t k => XS.aloadN X376.here hx rfl (hb hby d10_34) rfl rfl k) ?_
 obtain ⟨T377, X377, e377, st377⟩ := getF X376 hx hZ hown (host := "") (Or.inl (ww hw 49 rfl)) Via.refl e376 P1 (g := (mkF m 35 #[.val (.ref a1c)] [(.ref a1c)])) rfl rfl (hb hby d10_35)
 refine GoW.sg (mkF m 38 #[.val (.ref a1c)] [(.ref a2c)]) (fun t k => st377 t k) ?_
 refine GoW.retA X377 hx Bd.returns rfl rfl rfl (hb hby d10_38) Bd.notSynchronized ?_ (by decide) (by decide)
 rw [e377]
 exact ⟨rfl, N376, rfl⟩
def Q12_37 (Z : State) (a1c : Addr) (a2c : Addr) (ka2c : ClassId) (x1c : Int32) (x2c : Int32) (x3c : Int32) (h0 : Heap) (n0 : Nat) (v : Option Value) (h : Heap) (L : List Loc) : Prop := v = some (.int (2 : Int32)) ∧ Fr n0 L ∧ (h = h0)
theorem ef12_rm12_37 (m : MethodId) (a1c : Addr) : entryFrame m #[(.ref a1c)] 1 = (mkF m 0 #[.val (.ref a1c)] []) := by first | (simp [entryFrame, mkF, argsToLocals, Value.category, maxLocals]; done) | rfl
set_option maxRecDepth 65536 in
set_option maxHeartbeats 40000000 in
theorem rm12_37 (l : Launch) (Z : State) (a0 : Array Value) (hw : ∀ d ∈ tables_1, d.before a0 Z = true) (ws : List Jvm.Cond) (a1c : Addr) (a2c : Addr) (ka2c : ClassId) (x1c : Int32) (x2c : Int32) (x3c : Int32) (h0 : Heap) (n0 : Nat) (P0 : Exa Z h0 a1c "java/lang/String") (P1 : Fld Z h0 a1c "java/lang/String" "coder" "B" (.int (0 : Int32))) (P2 : Fld Z h0 a1c "java/lang/String" "value" "[B" (.ref a2c)) (P3 : Arv Z h0 a2c ka2c .byte (2 : Int32) [(.int x1c), (.int x2c)] (.int (0 : Int32))) (P4 : Sta Z h0 "java/lang/String" "COMPACT_STRINGS" "Z" (.int x3c))   (u0 : ¬ (x3c = (0 : Int32)))   :
    MetFree l Y12 (head1 (Jvm.Cond.code Y12 jdk_42_method_54_code 1 (some .int) :: ws) ({ frames := 1, cells := 0, slots := 0, locals := 13 } : Room)) (fun a U => a = #[(.ref a1c)] ∧ Z.Warmed39 U.vm ∧ U.heap = h0) (fun _ _ _ _ _ => True) (fun _ U o U' => ∃ v L, o = .returned v ∧ (Q12_37 Z a1c a2c ka2c x1c x2c x3c h0 n0) v U'.heap L ∧ FrameEnd U o U' L 0 0) := by
 refine MetFree.of_bodySF (plainFor_of_name pn_java_lang_String) hisR ?_
 intro p e s m args below meth c s₁ Bd hml0 hP hK
 obtain ⟨rfl, hZ, hh⟩ := hP
 have hx := Bd.exec
 have hby := Bd.bytes
 have hml : c.maxLocals = 1 := hml0
 have hown : s.vm.findClass "java/lang/String" = some m.cls := findClass_of_methodNamed Bd.named
 have hnm := (name_of_methodNamed Bd.named Bd.method).1
 have X0 : Stand p l e ({ frames := 1, cells := 0, slots := 0, locals := 13 } : Room) s m #[(.ref a1c)] below meth c s₁ [] 0 0 := Stand.of_body Bd
 have e0 : s₁.heap = h0 := by rw [← hh, Bd.state]; rfl
 have N0 := Fr.nil n0
 refine GoW.mk ?_
 refine GoW.st (fun t k => castTop (ef12_rm12_37 m a1c) k) ?_
 show GoW p e below s (Q12_37 Z a1c a2c ka2c x1c x2c x3c h0 n0) 0 0 (s₁.setTop (mkF m 0 #[.val (.ref a1c)] []))
 refine GoW.sg (mkF m 1 #[.val (.ref a1c)] [(.ref a1c)]) (fun t k => XS.aloadN X0.here hx rfl (hb hby d12_0) rfl rfl k) ?_
 obtain ⟨T384, X384, e384, st384⟩ := getF X0 hx hZ hown (host := "") (Or.inl (ww hw 33 rfl)) Via.refl e0 P2 (g := (mkF m 1 #[.val (.ref a1c)] [(.ref a1c)])) rfl rfl (hb hby d12_1)
 refine GoW.sg (mkF m 4 #[.val (.ref a1c)] [(.ref a2c)]) (fun t k => st384 t k) ?_
 obtain ⟨cl385, Ar385, q385, Sz385, Nn385, Hh385, Gg385⟩ := id P3
 have st385 := X384.arraylength hx (hq_ e384 Ar385.1) (State.isArrayOf_alike hZ.alike Ar385.2.1) (g := (mkF m 4 #[.val (.ref a1c)] [(.ref a2c)])) rfl rfl (hb hby d12_4)
 rw [len_of Sz385 Nn385] at st385
 refine GoW.sg (mkF m 5 #[.val (.ref a1c)] [(.int 2)]) (fun t k => st385 t k) ?_
 refine GoW.sg (mkF m 6 #[.val (.ref a1c)] [(.ref a1c), (.int 2)]) (fun t k => XS.aloadN X384.here hx rfl (hb hby d12_5) rfl rfl k) ?_
 obtain ⟨cq388, kq388, q388a, q388b, q388c⟩ := isOf hZ e384 P0
 obtain ⟨_, _, ⟨T388, L388, k388, n388⟩, -, X388, ⟨Lc388, hQ388, l388, y388, z388⟩, st388⟩ := X384.virtualBack hx (y := Y13) (z := Y13) hown (mvT hZ (ww hw 66 rfl)) (mvT hZ (ww hw 67 rfl)) (notFace_of_selects (args := #[]) (mvT hZ (ww hw 69 rfl))) (mvT hZ (ww hw 69 rfl)) (mvT hZ (ww hw 68 rfl)) (by decide) (backOf (W := 1) (rm13_11 l Z a0 hw [] a1c x3c h0 n0  P1 P4   u0 ) hZ (ww hw 70 rfl) (ww hw 7 rfl) (by decide) (by decide)) q388a q388c (g := (mkF m 6 #[.val (.ref a1c)] [(.ref a1c), (.int 2)])) rfl (by rw [hml]; rfl) (Steps.refl _) (argsL := []) (rest := [(.int (2 : Int32))]) (lenOf pd_2829B rfl) rfl (by show 2 * 0 + _ ≤ _; exact Nat.le_of_eq rfl) (hb hby d12_6) (fun _ _ => ⟨rfl, e384, (by decide : 0 + 0 ≤ _), (by decide : 0 + 0 ≤ _)⟩)
 dsimp only [Pt.U, Pt.locs, Pt.cells, Pt.slots] at X388 l388 y388 z388 st388 hQ388
 subst l388 y388 z388
 obtain ⟨rfl, N388q, e388⟩ := hQ388
 have N388 := Fr.app N0 N388q
 refine GoW.sg (mkF m 9 #[.val (.ref a1c)] [(.int 0), (.int 2)]) (fun t k => st388.trans k) ?_
 refine GoW.st (fun t k => XS.ishr X388.here hx rfl (hb hby d12_9) rfl k) ?_
 rw [show ((2 : Int32) >>> ((0 : Int32) &&& 31)) = (2 : Int32) from by decide]
 show GoW p e below s (Q12_37 Z a1c a2c ka2c x1c x2c x3c h0 n0) 0 0 (T388.setTop (mkF m 10 #[.val (.ref a1c)] [(.int 2)]))
 refine GoW.retI X388 hx Bd.returns (hb hby d12_10) Bd.notSynchronized ?_ (by decide) (by decide)
 rw [e388]
 exact ⟨rfl, N388, rfl⟩
def Q18_38 (Z : State)  (h0 : Heap) (n0 : Nat) (v : Option Value) (h : Heap) (L : List Loc) : Prop := v = some (.int (0 : Int32)) ∧ Fr n0 L ∧ (h = h0)
theorem ef18_rm18_38 (m : MethodId)  : entryFrame m #[(.int (0 : Int32)), (.int (2 : Int32)), .null] 3 = (mkF m 0 #[.val (.int 0), .val (.int 2), .val .null] []) := by first | (simp [entryFrame, mkF, argsToLocals, Value.category, maxLocals]; done) | rfl
set_option maxRecDepth 65536 in
set_option maxHeartbeats 40000000 in
theorem rm18_38 (l : Launch) (Z : State) (a0 : Array Value) (hw : ∀ d ∈ tables_1, d.before a0 Z = true) (ws : List Jvm.Cond)   (h0 : Heap) (n0 : Nat)       :
    MetFree l Y18 (head1 (Jvm.Cond.code Y18 jdk_41_method_11_code 3 (some .int) :: ws) ({ frames := 0, cells := 0, slots := 0, locals := 0 } : Room)) (fun a U => a = #[(.int (0 : Int32)), (.int (2 : Int32)), .null] ∧ Z.Warmed39 U.vm ∧ U.heap = h0) (fun _ _ _ _ _ => True) (fun _ U o U' => ∃ v L, o = .returned v ∧ (Q18_38 Z  h0 n0) v U'.heap L ∧ FrameEnd U o U' L 0 0) := by
 refine MetFree.of_bodySF (plainFor_of_name pn_jdk_internal_util_Preconditions) hisR ?_
 intro p e s m args below meth c s₁ Bd hml0 hP hK
 obtain ⟨rfl, hZ, hh⟩ := hP
 have hx := Bd.exec
 have hby := Bd.bytes
 have hml : c.maxLocals = 3 := hml0
 have hown : s.vm.findClass "jdk/internal/util/Preconditions" = some m.cls := findClass_of_methodNamed Bd.named
 have hnm := (name_of_methodNamed Bd.named Bd.method).1
 have X0 : Stand p l e ({ frames := 0, cells := 0, slots := 0, locals := 0 } : Room) s m #[(.int (0 : Int32)), (.int (2 : Int32)), .null] below meth c s₁ [] 0 0 := Stand.of_body Bd
 have e0 : s₁.heap = h0 := by rw [← hh, Bd.state]; rfl
 have N0 := Fr.nil n0
 refine GoW.mk ?_
 refine GoW.st (fun t k => castTop (ef18_rm18_38 m ) k) ?_
 show GoW p e below s (Q18_38 Z  h0 n0) 0 0 (s₁.setTop (mkF m 0 (Sh20 0 2) []))
 refine GoW.sg (mkF m 1 (Sh20 0 2) [(.int 0)]) (fun t k => XS.iloadN X0.here hx rfl (hb hby d18_0) rfl k) ?_
 refine GoW.sg (mkF m 4 (Sh20 0 2) []) (fun t k => XS.ifNo X0.here hx rfl (hb hby d18_1) rfl (by decide) k) ?_
 refine GoW.sg (mkF m 5 (Sh20 0 2) [(.int 0)]) (fun t k => XS.iloadN X0.here hx rfl (hb hby d18_4) rfl k) ?_
 refine GoW.sg (mkF m 6 (Sh20 0 2) [(.int 2), (.int 0)]) (fun t k => XS.iloadN X0.here hx rfl (hb hby d18_5) rfl k) ?_
 refine GoW.sg (mkF m 16 (Sh20 0 2) []) (fun t k => XS.icmpYes X0.here hx rfl (pc0 := 6) (pc' := 16) rfl (hb hby d18_6) rfl (by decide) (by decide) (by decide) k) ?_
 refine GoW.sg (mkF m 17 (Sh20 0 2) [(.int 0)]) (fun t k => XS.iloadN X0.here hx rfl (hb hby d18_16) rfl k) ?_
 refine GoW.retI X0 hx Bd.returns (hb hby d18_17) Bd.notSynchronized ?_ (by decide) (by decide)
 rw [e0]
 exact ⟨rfl, N0, rfl⟩
def Q17_39 (Z : State)  (h0 : Heap) (n0 : Nat) (v : Option Value) (h : Heap) (L : List Loc) : Prop := v = none ∧ Fr n0 L ∧ (h = h0)
theorem ef17_rm17_39 (m : MethodId)  : entryFrame m #[(.int (0 : Int32)), (.int (2 : Int32))] 2 = (mkF m 0 #[.val (.int 0), .val (.int 2)] []) := by first | (simp [entryFrame, mkF, argsToLocals, Value.category, maxLocals]; done) | rfl
set_option maxRecDepth 65536 in
set_option maxHeartbeats 40000000 in
theorem rm17_39 (l : Launch) (Z : State) (a0 : Array Value) (hw : ∀ d ∈ tables_1, d.before a0 Z = true) (ws : List Jvm.Cond)   (h0 : Heap) (n0 : Nat) (P0 : Sta Z h0 "jdk/internal/util/Preconditions" "SIOOBE_FORMATTER" "Ljava/util/function/BiFunction;" .null)      :
    MetFree l Y17 (head1 (Jvm.Cond.code Y17 jdk_42_method_155_code 2 none :: ws) ({ frames := 1, cells := 0, slots := 0, locals := 14 } : Room)) (fun a U => a = #[(.int (0 : Int32)), (.int (2 : Int32))] ∧ Z.Warmed39 U.vm ∧ U.heap = h0) (fun _ _ _ _ _ => True) (fun _ U o U' => ∃ v L, o = .returned v ∧ (Q17_39 Z  h0 n0) v U'.heap L ∧ FrameEnd U o U' L 0 0) := by
 refine MetFree.of_bodySF (plainFor_of_name pn_java_lang_String) hisR ?_
 intro p e s m args below meth c s₁ Bd hml0 hP hK
 obtain ⟨rfl, hZ, hh⟩ := hP
 have hx := Bd.exec
 have hby := Bd.bytes
 have hml : c.maxLocals = 2 := hml0
 have hown : s.vm.findClass "java/lang/String" = some m.cls := findClass_of_methodNamed Bd.named
 have hnm := (name_of_methodNamed Bd.named Bd.method).1
 have X0 : Stand p l e ({ frames := 1, cells := 0, slots := 0, locals := 14 } : Room) s m #[(.int (0 : Int32)), (.int (2 : Int32))] below meth c s₁ [] 0 0 := Stand.of_body Bd
 have e0 : s₁.heap = h0 := by rw [← hh, Bd.state]; rfl
 have N0 := Fr.nil n0
 refine GoW.mk ?_
 refine GoW.st (fun t k => castTop (ef17_rm17_39 m ) k) ?_
 show GoW p e below s (Q17_39 Z  h0 n0) 0 0 (s₁.setTop (mkF m 0 #[.val (.int 0), .val (.int 2)] []))
 refine GoW.sg (mkF m 1 #[.val (.int 0), .val (.int 2)] [(.int 0)]) (fun t k => XS.iloadN X0.here hx rfl (hb hby d17_0) rfl k) ?_
 refine GoW.sg (mkF m 2 #[.val (.int 0), .val (.int 2)] [(.int 2), (.int 0)]) (fun t k => XS.iloadN X0.here hx rfl (hb hby d17_1) rfl k) ?_
 obtain ⟨T397, X397, e397, st397⟩ := getS (host := "") X0 hx hZ hown (ww hw 88 rfl) Via.refl e0 P0 (g := (mkF m 2 #[.val (.int 0), .val (.int 2)] [(.int 2), (.int 0)])) rfl (hb hby d17_2)
 refine GoW.sg (mkF m 5 #[.val (.int 0), .val (.int 2)] [.null, (.int 2), (.int 0)]) (fun t k => st397 t k) ?_
 obtain ⟨_, T398, L398, X398, hQ398, st398⟩ := own_callS X397 hx hZ hown (y := Y18) (ww hw 90 rfl) (ww hw 91 rfl) (ww hw 89 rfl) (ww hw 92 rfl) (by decide) 0 (rm18_38 l Z a0 hw []   h0 n0      ) (by decide) (by decide) e397 (by decide) (by decide) (g := (mkF m 5 #[.val (.int 0), .val (.int 2)] [.null, (.int 2), (.int 0)])) rfl (by rw [hml]; rfl) (argsL := [(.int (0 : Int32)), (.int (2 : Int32)), .null]) (rest := []) (lenOf pd_28IILjava2futil2ffunction2fBiFunction3b29I rfl) rfl (by show 2 * 0 + _ ≤ _; exact Nat.le_of_eq rfl) (hb hby d17_5)
 obtain ⟨rfl, N398q, e398⟩ := hQ398
 have N398 := Fr.app N0 N398q
 refine GoW.sg (mkF m 8 #[.val (.int 0), .val (.int 2)] [(.int 0)]) (fun t k => st398 t k) ?_
 refine GoW.sg (mkF m 9 #[.val (.int 0), .val (.int 2)] []) (fun t k => XS.pop X398.here hx rfl (hb hby d17_8) rfl rfl k) ?_
 refine GoW.retV X398 hx Bd.returns (hb hby d17_9) Bd.notSynchronized ?_ (by decide) (by decide)
 rw [e398]
 exact ⟨rfl, N398, rfl⟩
def Q16_40 (Z : State) (a1c : Addr) (ka1c : ClassId) (x1c : Int32) (x2c : Int32) (h0 : Heap) (n0 : Nat) (v : Option Value) (h : Heap) (L : List Loc) : Prop := v = some (.int (nar .char (x1c &&& (255 : Int32)).toUInt32.toUInt16.toUInt32.toInt32)) ∧ Fr n0 L ∧ (h = h0)
theorem ef16_rm16_40 (m : MethodId) (a1c : Addr) : entryFrame m #[(.ref a1c), (.int (0 : Int32))] 2 = (mkF m 0 #[.val (.ref a1c), .val (.int 0)] []) := by first | (simp [entryFrame, mkF, argsToLocals, Value.category, maxLocals]; done) | rfl
set_option maxRecDepth 65536 in
set_option maxHeartbeats 40000000 in
theorem rm16_40 (l : Launch) (Z : State) (a0 : Array Value) (hw : ∀ d ∈ tables_1, d.before a0 Z = true) (ws : List Jvm.Cond) (a1c : Addr) (ka1c : ClassId) (x1c : Int32) (x2c : Int32) (h0 : Heap) (n0 : Nat) (P0 : Arv Z h0 a1c ka1c .byte (2 : Int32) [(.int x1c), (.int x2c)] (.int (0 : Int32))) (P1 : Sta Z h0 "jdk/internal/util/Preconditions" "SIOOBE_FORMATTER" "Ljava/util/function/BiFunction;" .null)      :
    MetFree l Y16 (head1 (Jvm.Cond.code Y16 jdk_43_method_2_code 2 (some .char) :: ws) ({ frames := 2, cells := 0, slots := 0, locals := 27 } : Room)) (fun a U => a = #[(.ref a1c), (.int (0 : Int32))] ∧ Z.Warmed39 U.vm ∧ U.heap = h0) (fun _ _ _ _ _ => True) (fun _ U o U' => ∃ v L, o = .returned v ∧ (Q16_40 Z a1c ka1c x1c x2c h0 n0) v U'.heap L ∧ FrameEnd U o U' L 0 0) := by
 refine MetFree.of_bodySF (plainFor_of_name pn_java_lang_StringLatin1) hisR ?_
 intro p e s m args below meth c s₁ Bd hml0 hP hK
 obtain ⟨rfl, hZ, hh⟩ := hP
 have hx := Bd.exec
 have hby := Bd.bytes
 have hml : c.maxLocals = 2 := hml0
 have hown : s.vm.findClass "java/lang/StringLatin1" = some m.cls := findClass_of_methodNamed Bd.named
 have hnm := (name_of_methodNamed Bd.named Bd.method).1
 have X0 : Stand p l e ({ frames := 2, cells := 0, slots := 0, locals := 27 } : Room) s m #[(.ref a1c), (.int (0 : Int32))] below meth c s₁ [] 0 0 := Stand.of_body Bd
 have e0 : s₁.heap = h0 := by rw [← hh, Bd.state]; rfl
 have N0 := Fr.nil n0
 refine GoW.mk ?_
 refine GoW.st (fun t k => castTop (ef16_rm16_40 m a1c) k) ?_
 show GoW p e below s (Q16_40 Z a1c ka1c x1c x2c h0 n0) 0 0 (s₁.setTop (mkF m 0 #[.val (.ref a1c), .val (.int 0)] []))
 refine GoW.sg (mkF m 1 #[.val (.ref a1c), .val (.int 0)] [(.int 0)]) (fun t k => XS.iloadN X0.here hx rfl (hb hby d16_0) rfl k) ?_
 refine GoW.sg (mkF m 2 #[.val (.ref a1c), .val (.int 0)] [(.ref a1c), (.int 0)]) (fun t k => XS.aloadN X0.here hx rfl (hb hby d16_1) rfl rfl k) ?_
 obtain ⟨cl401, Ar401, q401, Sz401, Nn401, Hh401, Gg401⟩ := id P0
 have st401 := X0.arraylength hx (hq_ e0 Ar401.1) (State.isArrayOf_alike hZ.alike Ar401.2.1) (g := (mkF m 2 #[.val (.ref a1c), .val (.int 0)] [(.ref a1c), (.int 0)])) rfl rfl (hb hby d16_2)
 rw [len_of Sz401 Nn401] at st401
 refine GoW.sg (mkF m 3 #[.val (.ref a1c), .val (.int 0)] [(.int 2), (.int 0)]) (fun t k => st401 t k) ?_
 obtain ⟨_, T404, L404, X404, hQ404, st404⟩ := own_callS X0 hx hZ hown (y := Y17) (ww hw 85 rfl) (ww hw 86 rfl) (ww hw 7 rfl) (ww hw 87 rfl) (by decide) 0 (rm17_39 l Z a0 hw []   h0 n0  P1    ) (by decide) (by decide) e0 (by decide) (by decide) (g := (mkF m 3 #[.val (.ref a1c), .val (.int 0)] [(.int 2), (.int 0)])) rfl (by rw [hml]; rfl) (argsL := [(.int (0 : Int32)), (.int (2 : Int32))]) (rest := []) (lenOf pd_28II29V rfl) rfl (by show 2 * 0 + _ ≤ _; exact Nat.le_of_eq rfl) (hb hby d16_3)
 obtain ⟨rfl, N404q, e404⟩ := hQ404
 have N404 := Fr.app N0 N404q
 refine GoW.sg (mkF m 6 #[.val (.ref a1c), .val (.int 0)] []) (fun t k => st404 t k) ?_
 refine GoW.sg (mkF m 7 #[.val (.ref a1c), .val (.int 0)] [(.ref a1c)]) (fun t k => XS.aloadN X404.here hx rfl (hb hby d16_6) rfl rfl k) ?_
 refine GoW.sg (mkF m 8 #[.val (.ref a1c), .val (.int 0)] [(.int 0), (.ref a1c)]) (fun t k => XS.iloadN X404.here hx rfl (hb hby d16_7) rfl k) ?_
 obtain ⟨cl405, Ar405, q405, Sz405, Nn405, Hh405, Gg405⟩ := id P0
 have hin405 : ¬ ((0 : Int32) < 0 ∨ cl405.slots.size ≤ ((0 : Int32)).toNatClampNeg) := inb_of Sz405 ⟨by decide, by decide⟩
 refine GoW.sg (mkF m 9 #[.val (.ref a1c), .val (.int 0)] [(.int x1c)]) (fun t k => X404.baloadBytes hx (j := (0 : Int32)) (v := (.int x1c)) (hq_ e404 Ar405.1) (State.isArrayOf_alike hZ.alike Ar405.2.1) Ar405.2.2 hin405 (Hh405.at hin405 rfl) (g := (mkF m 8 #[.val (.ref a1c), .val (.int 0)] [(.int 0), (.ref a1c)])) rfl rfl (hb hby d16_8) t k) ?_
 refine GoW.sg (mkF m 12 #[.val (.ref a1c), .val (.int 0)] [(.int 255), (.int x1c)]) (fun t k => XS.sipush X404.here hx rfl (hb hby d16_9) k) ?_
 refine GoW.sg (mkF m 13 #[.val (.ref a1c), .val (.int 0)] [(.int (x1c &&& (255 : Int32)))]) (fun t k => XS.iand X404.here hx rfl (hb hby d16_12) rfl k) ?_
 refine GoW.sg (mkF m 14 #[.val (.ref a1c), .val (.int 0)] [(.int (x1c &&& (255 : Int32)).toUInt32.toUInt16.toUInt32.toInt32)]) (fun t k => XS.i2c X404.here hx rfl (hb hby d16_13) rfl k) ?_
 refine GoW.retN X404 hx (t := .char) Bd.returns (by simp) (hb hby d16_14) Bd.notSynchronized ?_ (by decide) (by decide)
 rw [e404]
 exact ⟨rfl, N404, rfl⟩
def Q14_41 (Z : State) (a1c : Addr) (a2c : Addr) (ka2c : ClassId) (x1c : Int32) (x2c : Int32) (x3c : Int32) (h0 : Heap) (n0 : Nat) (v : Option Value) (h : Heap) (L : List Loc) : Prop := v = some (.int (nar .char (nar .char (x1c &&& (255 : Int32)).toUInt32.toUInt16.toUInt32.toInt32))) ∧ Fr n0 L ∧ (h = h0)
theorem ef14_rm14_41 (m : MethodId) (a1c : Addr) : entryFrame m #[(.ref a1c), (.int (0 : Int32))] 2 = (mkF m 0 #[.val (.ref a1c), .val (.int 0)] []) := by first | (simp [entryFrame, mkF, argsToLocals, Value.category, maxLocals]; done) | rfl
set_option maxRecDepth 65536 in
set_option maxHeartbeats 40000000 in
theorem rm14_41 (l : Launch) (Z : State) (a0 : Array Value) (hw : ∀ d ∈ tables_1, d.before a0 Z = true) (ws : List Jvm.Cond) (a1c : Addr) (a2c : Addr) (ka2c : ClassId) (x1c : Int32) (x2c : Int32) (x3c : Int32) (h0 : Heap) (n0 : Nat) (P0 : Exa Z h0 a1c "java/lang/String") (P1 : Fld Z h0 a1c "java/lang/String" "coder" "B" (.int (0 : Int32))) (P2 : Fld Z h0 a1c "java/lang/String" "value" "[B" (.ref a2c)) (P3 : Arv Z h0 a2c ka2c .byte (2 : Int32) [(.int x1c), (.int x2c)] (.int (0 : Int32))) (P4 : Sta Z h0 "java/lang/String" "COMPACT_STRINGS" "Z" (.int x3c)) (P5 : Sta Z h0 "jdk/internal/util/Preconditions" "SIOOBE_FORMATTER" "Ljava/util/function/BiFunction;" .null)   (u0 : ¬ (x3c = (0 : Int32)))   :
    MetFree l Y14 (head1 (Jvm.Cond.code Y14 jdk_42_method_56_code 2 (some .char) :: ws) ({ frames := 3, cells := 0, slots := 0, locals := 40 } : Room)) (fun a U => a = #[(.ref a1c), (.int (0 : Int32))] ∧ Z.Warmed39 U.vm ∧ U.heap = h0) (fun _ _ _ _ _ => True) (fun _ U o U' => ∃ v L, o = .returned v ∧ (Q14_41 Z a1c a2c ka2c x1c x2c x3c h0 n0) v U'.heap L ∧ FrameEnd U o U' L 0 0) := by
 refine MetFree.of_bodySF (plainFor_of_name pn_java_lang_String) hisR ?_
 intro p e s m args below meth c s₁ Bd hml0 hP hK
 obtain ⟨rfl, hZ, hh⟩ := hP
 have hx := Bd.exec
 have hby := Bd.bytes
 have hml : c.maxLocals = 2 := hml0
 have hown : s.vm.findClass "java/lang/String" = some m.cls := findClass_of_methodNamed Bd.named
 have hnm := (name_of_methodNamed Bd.named Bd.method).1
 have X0 : Stand p l e ({ frames := 3, cells := 0, slots := 0, locals := 40 } : Room) s m #[(.ref a1c), (.int (0 : Int32))] below meth c s₁ [] 0 0 := Stand.of_body Bd
 have e0 : s₁.heap = h0 := by rw [← hh, Bd.state]; rfl
 have N0 := Fr.nil n0
 refine GoW.mk ?_
 refine GoW.st (fun t k => castTop (ef14_rm14_41 m a1c) k) ?_
 show GoW p e below s (Q14_41 Z a1c a2c ka2c x1c x2c x3c h0 n0) 0 0 (s₁.setTop (mkF m 0 #[.val (.ref a1c), .val (.int 0)] []))
 refine GoW.sg (mkF m 1 #[.val (.ref a1c), .val (.int 0)] [(.ref a1c)]) (fun t k => XS.aloadN X0.here hx rfl (hb hby d14_0) rfl rfl k) ?_
 obtain ⟨cq407, kq407, q407a, q407b, q407c⟩ := isOf hZ e0 P0
 obtain ⟨_, _, ⟨T407, L407, k407, n407⟩, -, X407, ⟨Lc407, hQ407, l407, y407, z407⟩, st407⟩ := X0.virtualBack hx (y := Y15) (z := Y15) hown (mvT hZ (ww hw 76 rfl)) (mvT hZ (ww hw 77 rfl)) (notFace_of_selects (args := #[]) (mvT hZ (ww hw 79 rfl))) (mvT hZ (ww hw 79 rfl)) (mvT hZ (ww hw 78 rfl)) (by decide) (backOf (W := 0) (rm15_13 l Z a0 hw [] a1c x3c h0 n0  P1 P4   u0 ) hZ (ww hw 80 rfl) (ww hw 7 rfl) (by decide) (by decide)) q407a q407c (g := (mkF m 1 #[.val (.ref a1c), .val (.int 0)] [(.ref a1c)])) rfl (by rw [hml]; rfl) (Steps.refl _) (argsL := []) (rest := []) (lenOf pd_2829Z rfl) rfl (by show 2 * 0 + _ ≤ _; exact Nat.le_of_eq rfl) (hb hby d14_1) (fun _ _ => ⟨rfl, e0, (by decide : 0 + 0 ≤ _), (by decide : 0 + 0 ≤ _)⟩)
 dsimp only [Pt.U, Pt.locs, Pt.cells, Pt.slots] at X407 l407 y407 z407 st407 hQ407
 subst l407 y407 z407
 obtain ⟨rfl, N407q, e407⟩ := hQ407
 have N407 := Fr.app N0 N407q
 refine GoW.sg (mkF m 4 #[.val (.ref a1c), .val (.int 0)] [(.int 1)]) (fun t k => st407.trans k) ?_
 refine GoW.sg (mkF m 7 #[.val (.ref a1c), .val (.int 0)] []) (fun t k => XS.ifNo X407.here hx rfl (hb hby d14_4) rfl (by decide) k) ?_
 refine GoW.sg (mkF m 8 #[.val (.ref a1c), .val (.int 0)] [(.ref a1c)]) (fun t k => XS.aloadN X407.here hx rfl (hb hby d14_7) rfl rfl k) ?_
 obtain ⟨T408, X408, e408, st408⟩ := getF X407 hx hZ hown (host := "") (Or.inl (ww hw 33 rfl)) Via.refl e407 P2 (g := (mkF m 8 #[.val (.ref a1c), .val (.int 0)] [(.ref a1c)])) rfl rfl (hb hby d14_8)
 refine GoW.sg (mkF m 11 #[.val (.ref a1c), .val (.int 0)] [(.ref a2c)]) (fun t k => st408 t k) ?_
 refine GoW.sg (mkF m 12 #[.val (.ref a1c), .val (.int 0)] [(.int 0), (.ref a2c)]) (fun t k => XS.iloadN X408.here hx rfl (hb hby d14_11) rfl k) ?_
 obtain ⟨_, T409, L409, X409, hQ409, st409⟩ := own_callS X408 hx hZ hown (y := Y16) (ww hw 81 rfl) (ww hw 82 rfl) (ww hw 83 rfl) (ww hw 84 rfl) (by decide) 0 (rm16_40 l Z a0 hw [] a2c ka2c x1c x2c h0 n0  P3 P5    ) (by decide) (by decide) e408 (by decide) (by decide) (g := (mkF m 12 #[.val (.ref a1c), .val (.int 0)] [(.int 0), (.ref a2c)])) rfl (by rw [hml]; rfl) (argsL := [(.ref a2c), (.int (0 : Int32))]) (rest := []) (lenOf pd_285bBI29C rfl) rfl (by show 2 * 0 + _ ≤ _; exact Nat.le_of_eq rfl) (hb hby d14_12)
 obtain ⟨rfl, N409q, e409⟩ := hQ409
 have N409 := Fr.app N407 N409q
 refine GoW.sg (mkF m 15 #[.val (.ref a1c), .val (.int 0)] [(.int (nar .char (x1c &&& (255 : Int32)).toUInt32.toUInt16.toUInt32.toInt32))]) (fun t k => st409 t k) ?_
 refine GoW.retN X409 hx (t := .char) Bd.returns (by simp) (hb hby d14_15) Bd.notSynchronized ?_ (by decide) (by decide)
 rw [e409]
 exact ⟨rfl, N409, rfl⟩
def Q18_42 (Z : State)  (h0 : Heap) (n0 : Nat) (v : Option Value) (h : Heap) (L : List Loc) : Prop := v = some (.int (1 : Int32)) ∧ Fr n0 L ∧ (h = h0)
theorem ef18_rm18_42 (m : MethodId)  : entryFrame m #[(.int (1 : Int32)), (.int (2 : Int32)), .null] 3 = (mkF m 0 #[.val (.int 1), .val (.int 2), .val .null] []) := by first | (simp [entryFrame, mkF, argsToLocals, Value.category, maxLocals]; done) | rfl
set_option maxRecDepth 65536 in
set_option maxHeartbeats 40000000 in
theorem rm18_42 (l : Launch) (Z : State) (a0 : Array Value) (hw : ∀ d ∈ tables_1, d.before a0 Z = true) (ws : List Jvm.Cond)   (h0 : Heap) (n0 : Nat)       :
    MetFree l Y18 (head1 (Jvm.Cond.code Y18 jdk_41_method_11_code 3 (some .int) :: ws) ({ frames := 0, cells := 0, slots := 0, locals := 0 } : Room)) (fun a U => a = #[(.int (1 : Int32)), (.int (2 : Int32)), .null] ∧ Z.Warmed39 U.vm ∧ U.heap = h0) (fun _ _ _ _ _ => True) (fun _ U o U' => ∃ v L, o = .returned v ∧ (Q18_42 Z  h0 n0) v U'.heap L ∧ FrameEnd U o U' L 0 0) := by
 refine MetFree.of_bodySF (plainFor_of_name pn_jdk_internal_util_Preconditions) hisR ?_
 intro p e s m args below meth c s₁ Bd hml0 hP hK
 obtain ⟨rfl, hZ, hh⟩ := hP
 have hx := Bd.exec
 have hby := Bd.bytes
 have hml : c.maxLocals = 3 := hml0
 have hown : s.vm.findClass "jdk/internal/util/Preconditions" = some m.cls := findClass_of_methodNamed Bd.named
 have hnm := (name_of_methodNamed Bd.named Bd.method).1
 have X0 : Stand p l e ({ frames := 0, cells := 0, slots := 0, locals := 0 } : Room) s m #[(.int (1 : Int32)), (.int (2 : Int32)), .null] below meth c s₁ [] 0 0 := Stand.of_body Bd
 have e0 : s₁.heap = h0 := by rw [← hh, Bd.state]; rfl
 have N0 := Fr.nil n0
 refine GoW.mk ?_
 refine GoW.st (fun t k => castTop (ef18_rm18_42 m ) k) ?_
 show GoW p e below s (Q18_42 Z  h0 n0) 0 0 (s₁.setTop (mkF m 0 (Sh20 1 2) []))
 refine GoW.sg (mkF m 1 (Sh20 1 2) [(.int 1)]) (fun t k => XS.iloadN X0.here hx rfl (hb hby d18_0) rfl k) ?_
 refine GoW.sg (mkF m 4 (Sh20 1 2) []) (fun t k => XS.ifNo X0.here hx rfl (hb hby d18_1) rfl (by decide) k) ?_
 refine GoW.sg (mkF m 5 (Sh20 1 2) [(.int 1)]) (fun t k => XS.iloadN X0.here hx rfl (hb hby d18_4) rfl k) ?_
 refine GoW.sg (mkF m 6 (Sh20 1 2) [(.int 2), (.int 1)]) (fun t k => XS.iloadN X0.here hx rfl (hb hby d18_5) rfl k) ?_
 refine GoW.sg (mkF m 16 (Sh20 1 2) []) (fun t k => XS.icmpYes X0.here hx rfl (pc0 := 6) (pc' := 16) rfl (hb hby d18_6) rfl (by decide) (by decide) (by decide) k) ?_
 refine GoW.sg (mkF m 17 (Sh20 1 2) [(.int 1)]) (fun t k => XS.iloadN X0.here hx rfl (hb hby d18_16) rfl k) ?_
 refine GoW.retI X0 hx Bd.returns (hb hby d18_17) Bd.notSynchronized ?_ (by decide) (by decide)
 rw [e0]
 exact ⟨rfl, N0, rfl⟩
def Q17_43 (Z : State)  (h0 : Heap) (n0 : Nat) (v : Option Value) (h : Heap) (L : List Loc) : Prop := v = none ∧ Fr n0 L ∧ (h = h0)
theorem ef17_rm17_43 (m : MethodId)  : entryFrame m #[(.int (1 : Int32)), (.int (2 : Int32))] 2 = (mkF m 0 #[.val (.int 1), .val (.int 2)] []) := by first | (simp [entryFrame, mkF, argsToLocals, Value.category, maxLocals]; done) | rfl
set_option maxRecDepth 65536 in
set_option maxHeartbeats 40000000 in
theorem rm17_43 (l : Launch) (Z : State) (a0 : Array Value) (hw : ∀ d ∈ tables_1, d.before a0 Z = true) (ws : List Jvm.Cond)   (h0 : Heap) (n0 : Nat) (P0 : Sta Z h0 "jdk/internal/util/Preconditions" "SIOOBE_FORMATTER" "Ljava/util/function/BiFunction;" .null)      :
    MetFree l Y17 (head1 (Jvm.Cond.code Y17 jdk_42_method_155_code 2 none :: ws) ({ frames := 1, cells := 0, slots := 0, locals := 14 } : Room)) (fun a U => a = #[(.int (1 : Int32)), (.int (2 : Int32))] ∧ Z.Warmed39 U.vm ∧ U.heap = h0) (fun _ _ _ _ _ => True) (fun _ U o U' => ∃ v L, o = .returned v ∧ (Q17_43 Z  h0 n0) v U'.heap L ∧ FrameEnd U o U' L 0 0) := by
 refine MetFree.of_bodySF (plainFor_of_name pn_java_lang_String) hisR ?_
 intro p e s m args below meth c s₁ Bd hml0 hP hK
 obtain ⟨rfl, hZ, hh⟩ := hP
 have hx := Bd.exec
 have hby := Bd.bytes
 have hml : c.maxLocals = 2 := hml0
 have hown : s.vm.findClass "java/lang/String" = some m.cls := findClass_of_methodNamed Bd.named
 have hnm := (name_of_methodNamed Bd.named Bd.method).1
 have X0 : Stand p l e ({ frames := 1, cells := 0, slots := 0, locals := 14 } : Room) s m #[(.int (1 : Int32)), (.int (2 : Int32))] below meth c s₁ [] 0 0 := Stand.of_body Bd
 have e0 : s₁.heap = h0 := by rw [← hh, Bd.state]; rfl
 have N0 := Fr.nil n0
 refine GoW.mk ?_
 refine GoW.st (fun t k => castTop (ef17_rm17_43 m ) k) ?_
 show GoW p e below s (Q17_43 Z  h0 n0) 0 0 (s₁.setTop (mkF m 0 #[.val (.int 1), .val (.int 2)] []))
 refine GoW.sg (mkF m 1 #[.val (.int 1), .val (.int 2)] [(.int 1)]) (fun t k => XS.iloadN X0.here hx rfl (hb hby d17_0) rfl k) ?_
 refine GoW.sg (mkF m 2 #[.val (.int 1), .val (.int 2)] [(.int 2), (.int 1)]) (fun t k => XS.iloadN X0.here hx rfl (hb hby d17_1) rfl k) ?_
 obtain ⟨T416, X416, e416, st416⟩ := getS (host := "") X0 hx hZ hown (ww hw 88 rfl) Via.refl e0 P0 (g := (mkF m 2 #[.val (.int 1), .val (.int 2)] [(.int 2), (.int 1)])) rfl (hb hby d17_2)
 refine GoW.sg (mkF m 5 #[.val (.int 1), .val (.int 2)] [.null, (.int 2), (.int 1)]) (fun t k => st416 t k) ?_
 obtain ⟨_, T417, L417, X417, hQ417, st417⟩ := own_callS X416 hx hZ hown (y := Y18) (ww hw 90 rfl) (ww hw 91 rfl) (ww hw 89 rfl) (ww hw 92 rfl) (by decide) 0 (rm18_42 l Z a0 hw []   h0 n0      ) (by decide) (by decide) e416 (by decide) (by decide) (g := (mkF m 5 #[.val (.int 1), .val (.int 2)] [.null, (.int 2), (.int 1)])) rfl (by rw [hml]; rfl) (argsL := [(.int (1 : Int32)), (.int (2 : Int32)), .null]) (rest := []) (lenOf pd_28IILjava2futil2ffunction2fBiFunction3b29I rfl) rfl (by show 2 * 0 + _ ≤ _; exact Nat.le_of_eq rfl) (hb hby d17_5)
 obtain ⟨rfl, N417q, e417⟩ := hQ417
 have N417 := Fr.app N0 N417q
 refine GoW.sg (mkF m 8 #[.val (.int 1), .val (.int 2)] [(.int 1)]) (fun t k => st417 t k) ?_
 refine GoW.sg (mkF m 9 #[.val (.int 1), .val (.int 2)] []) (fun t k => XS.pop X417.here hx rfl (hb hby d17_8) rfl rfl k) ?_
 refine GoW.retV X417 hx Bd.returns (hb hby d17_9) Bd.notSynchronized ?_ (by decide) (by decide)
 rw [e417]
 exact ⟨rfl, N417, rfl⟩
def Q16_44 (Z : State) (a1c : Addr) (ka1c : ClassId) (x1c : Int32) (x2c : Int32) (h0 : Heap) (n0 : Nat) (v : Option Value) (h : Heap) (L : List Loc) : Prop := v = some (.int (nar .char (x2c &&& (255 : Int32)).toUInt32.toUInt16.toUInt32.toInt32)) ∧ Fr n0 L ∧ (h = h0)
theorem ef16_rm16_44 (m : MethodId) (a1c : Addr) : entryFrame m #[(.ref a1c), (.int (1 : Int32))] 2 = (mkF m 0 #[.val (.ref a1c), .val (.int 1)] []) := by first | (simp [entryFrame, mkF, argsToLocals, Value.category, maxLocals]; done) | rfl
set_option maxRecDepth 65536 in
set_option maxHeartbeats 40000000 in
theorem rm16_44 (l : Launch) (Z : State) (a0 : Array Value) (hw : ∀ d ∈ tables_1, d.before a0 Z = true) (ws : List Jvm.Cond) (a1c : Addr) (ka1c : ClassId) (x1c : Int32) (x2c : Int32) (h0 : Heap) (n0 : Nat) (P0 : Arv Z h0 a1c ka1c .byte (2 : Int32) [(.int x1c), (.int x2c)] (.int (0 : Int32))) (P1 : Sta Z h0 "jdk/internal/util/Preconditions" "SIOOBE_FORMATTER" "Ljava/util/function/BiFunction;" .null)      :
    MetFree l Y16 (head1 (Jvm.Cond.code Y16 jdk_43_method_2_code 2 (some .char) :: ws) ({ frames := 2, cells := 0, slots := 0, locals := 27 } : Room)) (fun a U => a = #[(.ref a1c), (.int (1 : Int32))] ∧ Z.Warmed39 U.vm ∧ U.heap = h0) (fun _ _ _ _ _ => True) (fun _ U o U' => ∃ v L, o = .returned v ∧ (Q16_44 Z a1c ka1c x1c x2c h0 n0) v U'.heap L ∧ FrameEnd U o U' L 0 0) := by
 refine MetFree.of_bodySF (plainFor_of_name pn_java_lang_StringLatin1) hisR ?_
 intro p e s m args below meth c s₁ Bd hml0 hP hK
 obtain ⟨rfl, hZ, hh⟩ := hP
 have hx := Bd.exec
 have hby := Bd.bytes
 have hml : c.maxLocals = 2 := hml0
 have hown : s.vm.findClass "java/lang/StringLatin1" = some m.cls := findClass_of_methodNamed Bd.named
 have hnm := (name_of_methodNamed Bd.named Bd.method).1
 have X0 : Stand p l e ({ frames := 2, cells := 0, slots := 0, locals := 27 } : Room) s m #[(.ref a1c), (.int (1 : Int32))] below meth c s₁ [] 0 0 := Stand.of_body Bd
 have e0 : s₁.heap = h0 := by rw [← hh, Bd.state]; rfl
 have N0 := Fr.nil n0
 refine GoW.mk ?_
 refine GoW.st (fun t k => castTop (ef16_rm16_44 m a1c) k) ?_
 show GoW p e below s (Q16_44 Z a1c ka1c x1c x2c h0 n0) 0 0 (s₁.setTop (mkF m 0 #[.val (.ref a1c), .val (.int 1)] []))
 refine GoW.sg (mkF m 1 #[.val (.ref a1c), .val (.int 1)] [(.int 1)]) (fun t k => XS.iloadN X0.here hx rfl (hb hby d16_0) rfl k) ?_
 refine GoW.sg (mkF m 2 #[.val (.ref a1c), .val (.int 1)] [(.ref a1c), (.int 1)]) (fun t k => XS.aloadN X0.here hx rfl (hb hby d16_1) rfl rfl k) ?_
 obtain ⟨cl420, Ar420, q420, Sz420, Nn420, Hh420, Gg420⟩ := id P0
 have st420 := X0.arraylength hx (hq_ e0 Ar420.1) (State.isArrayOf_alike hZ.alike Ar420.2.1) (g := (mkF m 2 #[.val (.ref a1c), .val (.int 1)] [(.ref a1c), (.int 1)])) rfl rfl (hb hby d16_2)
 rw [len_of Sz420 Nn420] at st420
 refine GoW.sg (mkF m 3 #[.val (.ref a1c), .val (.int 1)] [(.int 2), (.int 1)]) (fun t k => st420 t k) ?_
 obtain ⟨_, T423, L423, X423, hQ423, st423⟩ := own_callS X0 hx hZ hown (y := Y17) (ww hw 85 rfl) (ww hw 86 rfl) (ww hw 7 rfl) (ww hw 87 rfl) (by decide) 0 (rm17_43 l Z a0 hw []   h0 n0  P1    ) (by decide) (by decide) e0 (by decide) (by decide) (g := (mkF m 3 #[.val (.ref a1c), .val (.int 1)] [(.int 2), (.int 1)])) rfl (by rw [hml]; rfl) (argsL := [(.int (1 : Int32)), (.int (2 : Int32))]) (rest := []) (lenOf pd_28II29V rfl) rfl (by show 2 * 0 + _ ≤ _; exact Nat.le_of_eq rfl) (hb hby d16_3)
 obtain ⟨rfl, N423q, e423⟩ := hQ423
 have N423 := Fr.app N0 N423q
 refine GoW.sg (mkF m 6 #[.val (.ref a1c), .val (.int 1)] []) (fun t k => st423 t k) ?_
 refine GoW.sg (mkF m 7 #[.val (.ref a1c), .val (.int 1)] [(.ref a1c)]) (fun t k => XS.aloadN X423.here hx rfl (hb hby d16_6) rfl rfl k) ?_
 refine GoW.sg (mkF m 8 #[.val (.ref a1c), .val (.int 1)] [(.int 1), (.ref a1c)]) (fun t k => XS.iloadN X423.here hx rfl (hb hby d16_7) rfl k) ?_
 obtain ⟨cl424, Ar424, q424, Sz424, Nn424, Hh424, Gg424⟩ := id P0
 have hin424 : ¬ ((1 : Int32) < 0 ∨ cl424.slots.size ≤ ((1 : Int32)).toNatClampNeg) := inb_of Sz424 ⟨by decide, by decide⟩
 refine GoW.sg (mkF m 9 #[.val (.ref a1c), .val (.int 1)] [(.int x2c)]) (fun t k => X423.baloadBytes hx (j := (1 : Int32)) (v := (.int x2c)) (hq_ e423 Ar424.1) (State.isArrayOf_alike hZ.alike Ar424.2.1) Ar424.2.2 hin424 (Hh424.at hin424 rfl) (g := (mkF m 8 #[.val (.ref a1c), .val (.int 1)] [(.int 1), (.ref a1c)])) rfl rfl (hb hby d16_8) t k) ?_
 refine GoW.sg (mkF m 12 #[.val (.ref a1c), .val (.int 1)] [(.int 255), (.int x2c)]) (fun t k => XS.sipush X423.here hx rfl (hb hby d16_9) k) ?_
 refine GoW.sg (mkF m 13 #[.val (.ref a1c), .val (.int 1)] [(.int (x2c &&& (255 : Int32)))]) (fun t k => XS.iand X423.here hx rfl (hb hby d16_12) rfl k) ?_
 refine GoW.sg (mkF m 14 #[.val (.ref a1c), .val (.int 1)] [(.int (x2c &&& (255 : Int32)).toUInt32.toUInt16.toUInt32.toInt32)]) (fun t k => XS.i2c X423.here hx rfl (hb hby d16_13) rfl k) ?_
 refine GoW.retN X423 hx (t := .char) Bd.returns (by simp) (hb hby d16_14) Bd.notSynchronized ?_ (by decide) (by decide)
 rw [e423]
 exact ⟨rfl, N423, rfl⟩
def Q14_45 (Z : State) (a1c : Addr) (a2c : Addr) (ka2c : ClassId) (x1c : Int32) (x2c : Int32) (x3c : Int32) (h0 : Heap) (n0 : Nat) (v : Option Value) (h : Heap) (L : List Loc) : Prop := v = some (.int (nar .char (nar .char (x2c &&& (255 : Int32)).toUInt32.toUInt16.toUInt32.toInt32))) ∧ Fr n0 L ∧ (h = h0)
theorem ef14_rm14_45 (m : MethodId) (a1c : Addr) : entryFrame m #[(.ref a1c), (.int (1 : Int32))] 2 = (mkF m 0 #[.val (.ref a1c), .val (.int 1)] []) := by first | (simp [entryFrame, mkF, argsToLocals, Value.category, maxLocals]; done) | rfl
set_option maxRecDepth 65536 in
set_option maxHeartbeats 40000000 in
theorem rm14_45 (l : Launch) (Z : State) (a0 : Array Value) (hw : ∀ d ∈ tables_1, d.before a0 Z = true) (ws : List Jvm.Cond) (a1c : Addr) (a2c : Addr) (ka2c : ClassId) (x1c : Int32) (x2c : Int32) (x3c : Int32) (h0 : Heap) (n0 : Nat) (P0 : Exa Z h0 a1c "java/lang/String") (P1 : Fld Z h0 a1c "java/lang/String" "coder" "B" (.int (0 : Int32))) (P2 : Fld Z h0 a1c "java/lang/String" "value" "[B" (.ref a2c)) (P3 : Arv Z h0 a2c ka2c .byte (2 : Int32) [(.int x1c), (.int x2c)] (.int (0 : Int32))) (P4 : Sta Z h0 "java/lang/String" "COMPACT_STRINGS" "Z" (.int x3c)) (P5 : Sta Z h0 "jdk/internal/util/Preconditions" "SIOOBE_FORMATTER" "Ljava/util/function/BiFunction;" .null)   (u0 : ¬ (x3c = (0 : Int32)))   :
    MetFree l Y14 (head1 (Jvm.Cond.code Y14 jdk_42_method_56_code 2 (some .char) :: ws) ({ frames := 3, cells := 0, slots := 0, locals := 40 } : Room)) (fun a U => a = #[(.ref a1c), (.int (1 : Int32))] ∧ Z.Warmed39 U.vm ∧ U.heap = h0) (fun _ _ _ _ _ => True) (fun _ U o U' => ∃ v L, o = .returned v ∧ (Q14_45 Z a1c a2c ka2c x1c x2c x3c h0 n0) v U'.heap L ∧ FrameEnd U o U' L 0 0) := by
 refine MetFree.of_bodySF (plainFor_of_name pn_java_lang_String) hisR ?_
 intro p e s m args below meth c s₁ Bd hml0 hP hK
 obtain ⟨rfl, hZ, hh⟩ := hP
 have hx := Bd.exec
 have hby := Bd.bytes
 have hml : c.maxLocals = 2 := hml0
 have hown : s.vm.findClass "java/lang/String" = some m.cls := findClass_of_methodNamed Bd.named
 have hnm := (name_of_methodNamed Bd.named Bd.method).1
 have X0 : Stand p l e ({ frames := 3, cells := 0, slots := 0, locals := 40 } : Room) s m #[(.ref a1c), (.int (1 : Int32))] below meth c s₁ [] 0 0 := Stand.of_body Bd
 have e0 : s₁.heap = h0 := by rw [← hh, Bd.state]; rfl
 have N0 := Fr.nil n0
 refine GoW.mk ?_
 refine GoW.st (fun t k => castTop (ef14_rm14_45 m a1c) k) ?_
 show GoW p e below s (Q14_45 Z a1c a2c ka2c x1c x2c x3c h0 n0) 0 0 (s₁.setTop (mkF m 0 #[.val (.ref a1c), .val (.int 1)] []))
 refine GoW.sg (mkF m 1 #[.val (.ref a1c), .val (.int 1)] [(.ref a1c)]) (fun t k => XS.aloadN X0.here hx rfl (hb hby d14_0) rfl rfl k) ?_
 obtain ⟨cq426, kq426, q426a, q426b, q426c⟩ := isOf hZ e0 P0
 obtain ⟨_, _, ⟨T426, L426, k426, n426⟩, -, X426, ⟨Lc426, hQ426, l426, y426, z426⟩, st426⟩ := X0.virtualBack hx (y := Y15) (z := Y15) hown (mvT hZ (ww hw 76 rfl)) (mvT hZ (ww hw 77 rfl)) (notFace_of_selects (args := #[]) (mvT hZ (ww hw 79 rfl))) (mvT hZ (ww hw 79 rfl)) (mvT hZ (ww hw 78 rfl)) (by decide) (backOf (W := 0) (rm15_13 l Z a0 hw [] a1c x3c h0 n0  P1 P4   u0 ) hZ (ww hw 80 rfl) (ww hw 7 rfl) (by decide) (by decide)) q426a q426c (g := (mkF m 1 #[.val (.ref a1c), .val (.int 1)] [(.ref a1c)])) rfl (by rw [hml]; rfl) (Steps.refl _) (argsL := []) (rest := []) (lenOf pd_2829Z rfl) rfl (by show 2 * 0 + _ ≤ _; exact Nat.le_of_eq rfl) (hb hby d14_1) (fun _ _ => ⟨rfl, e0, (by decide : 0 + 0 ≤ _), (by decide : 0 + 0 ≤ _)⟩)
 dsimp only [Pt.U, Pt.locs, Pt.cells, Pt.slots] at X426 l426 y426 z426 st426 hQ426
 subst l426 y426 z426
 obtain ⟨rfl, N426q, e426⟩ := hQ426
 have N426 := Fr.app N0 N426q
 refine GoW.sg (mkF m 4 #[.val (.ref a1c), .val (.int 1)] [(.int 1)]) (fun t k => st426.trans k) ?_
 refine GoW.sg (mkF m 7 #[.val (.ref a1c), .val (.int 1)] []) (fun t k => XS.ifNo X426.here hx rfl (hb hby d14_4) rfl (by decide) k) ?_
 refine GoW.sg (mkF m 8 #[.val (.ref a1c), .val (.int 1)] [(.ref a1c)]) (fun t k => XS.aloadN X426.here hx rfl (hb hby d14_7) rfl rfl k) ?_
 obtain ⟨T427, X427, e427, st427⟩ := getF X426 hx hZ hown (host := "") (Or.inl (ww hw 33 rfl)) Via.refl e426 P2 (g := (mkF m 8 #[.val (.ref a1c), .val (.int 1)] [(.ref a1c)])) rfl rfl (hb hby d14_8)
 refine GoW.sg (mkF m 11 #[.val (.ref a1c), .val (.int 1)] [(.ref a2c)]) (fun t k => st427 t k) ?_
 refine GoW.sg (mkF m 12 #[.val (.ref a1c), .val (.int 1)] [(.int 1), (.ref a2c)]) (fun t k => XS.iloadN X427.here hx rfl (hb hby d14_11) rfl k) ?_
 obtain ⟨_, T428, L428, X428, hQ428, st428⟩ := own_callS X427 hx hZ hown (y := Y16) (ww hw 81 rfl) (ww hw 82 rfl) (ww hw 83 rfl) (ww hw 84 rfl) (by decide) 0 (rm16_44 l Z a0 hw [] a2c ka2c x1c x2c h0 n0  P3 P5    ) (by decide) (by decide) e427 (by decide) (by decide) (g := (mkF m 12 #[.val (.ref a1c), .val (.int 1)] [(.int 1), (.ref a2c)])) rfl (by rw [hml]; rfl) (argsL := [(.ref a2c), (.int (1 : Int32))]) (rest := []) (lenOf pd_285bBI29C rfl) rfl (by show 2 * 0 + _ ≤ _; exact Nat.le_of_eq rfl) (hb hby d14_12)
 obtain ⟨rfl, N428q, e428⟩ := hQ428
 have N428 := Fr.app N426 N428q
 refine GoW.sg (mkF m 15 #[.val (.ref a1c), .val (.int 1)] [(.int (nar .char (x2c &&& (255 : Int32)).toUInt32.toUInt16.toUInt32.toInt32))]) (fun t k => st428 t k) ?_
 refine GoW.retN X428 hx (t := .char) Bd.returns (by simp) (hb hby d14_15) Bd.notSynchronized ?_ (by decide) (by decide)
 rw [e428]
 exact ⟨rfl, N428, rfl⟩
def Q18_46 (Z : State) (a1c : Addr) (h0 : Heap) (n0 : Nat) (v : Option Value) (h : Heap) (L : List Loc) : Prop := v = some (.int (0 : Int32)) ∧ Fr n0 L ∧ (h = h0)
theorem ef18_rm18_46 (m : MethodId) (a1c : Addr) : entryFrame m #[(.int (0 : Int32)), (.int (2 : Int32)), (.ref a1c)] 3 = (mkF m 0 #[.val (.int 0), .val (.int 2), .val (.ref a1c)] []) := by first | (simp [entryFrame, mkF, argsToLocals, Value.category, maxLocals]; done) | rfl
set_option maxRecDepth 65536 in
set_option maxHeartbeats 40000000 in
theorem rm18_46 (l : Launch) (Z : State) (a0 : Array Value) (hw : ∀ d ∈ tables_1, d.before a0 Z = true) (ws : List Jvm.Cond) (a1c : Addr)  (h0 : Heap) (n0 : Nat)       :
    MetFree l Y18 (head1 (Jvm.Cond.code Y18 jdk_41_method_11_code 3 (some .int) :: ws) ({ frames := 0, cells := 0, slots := 0, locals := 0 } : Room)) (fun a U => a = #[(.int (0 : Int32)), (.int (2 : Int32)), (.ref a1c)] ∧ Z.Warmed39 U.vm ∧ U.heap = h0) (fun _ _ _ _ _ => True) (fun _ U o U' => ∃ v L, o = .returned v ∧ (Q18_46 Z a1c h0 n0) v U'.heap L ∧ FrameEnd U o U' L 0 0) := by
 refine MetFree.of_bodySF (plainFor_of_name pn_jdk_internal_util_Preconditions) hisR ?_
 intro p e s m args below meth c s₁ Bd hml0 hP hK
 obtain ⟨rfl, hZ, hh⟩ := hP
 have hx := Bd.exec
 have hby := Bd.bytes
 have hml : c.maxLocals = 3 := hml0
 have hown : s.vm.findClass "jdk/internal/util/Preconditions" = some m.cls := findClass_of_methodNamed Bd.named
 have hnm := (name_of_methodNamed Bd.named Bd.method).1
 have X0 : Stand p l e ({ frames := 0, cells := 0, slots := 0, locals := 0 } : Room) s m #[(.int (0 : Int32)), (.int (2 : Int32)), (.ref a1c)] below meth c s₁ [] 0 0 := Stand.of_body Bd
 have e0 : s₁.heap = h0 := by rw [← hh, Bd.state]; rfl
 have N0 := Fr.nil n0
 refine GoW.mk ?_
 refine GoW.st (fun t k => castTop (ef18_rm18_46 m a1c) k) ?_
 show GoW p e below s (Q18_46 Z a1c h0 n0) 0 0 (s₁.setTop (mkF m 0 (Sh21 0 2 a1c) []))
 refine GoW.sg (mkF m 1 (Sh21 0 2 a1c) [(.int 0)]) (fun t k => XS.iloadN X0.here hx rfl (hb hby d18_0) rfl k) ?_
 refine GoW.sg (mkF m 4 (Sh21 0 2 a1c) []) (fun t k => XS.ifNo X0.here hx rfl (hb hby d18_1) rfl (by decide) k) ?_
 refine GoW.sg (mkF m 5 (Sh21 0 2 a1c) [(.int 0)]) (fun t k => XS.iloadN X0.here hx rfl (hb hby d18_4) rfl k) ?_
 refine GoW.sg (mkF m 6 (Sh21 0 2 a1c) [(.int 2), (.int 0)]) (fun t k => XS.iloadN X0.here hx rfl (hb hby d18_5) rfl k) ?_
 refine GoW.sg (mkF m 16 (Sh21 0 2 a1c) []) (fun t k => XS.icmpYes X0.here hx rfl (pc0 := 6) (pc' := 16) rfl (hb hby d18_6) rfl (by decide) (by decide) (by decide) k) ?_
 refine GoW.sg (mkF m 17 (Sh21 0 2 a1c) [(.int 0)]) (fun t k => XS.iloadN X0.here hx rfl (hb hby d18_16) rfl k) ?_
 refine GoW.retI X0 hx Bd.returns (hb hby d18_17) Bd.notSynchronized ?_ (by decide) (by decide)
 rw [e0]
 exact ⟨rfl, N0, rfl⟩
def Q17_47 (Z : State) (a1c : Addr) (h0 : Heap) (n0 : Nat) (v : Option Value) (h : Heap) (L : List Loc) : Prop := v = none ∧ Fr n0 L ∧ (h = h0)
theorem ef17_rm17_47 (m : MethodId)  : entryFrame m #[(.int (0 : Int32)), (.int (2 : Int32))] 2 = (mkF m 0 #[.val (.int 0), .val (.int 2)] []) := by first | (simp [entryFrame, mkF, argsToLocals, Value.category, maxLocals]; done) | rfl
set_option maxRecDepth 65536 in
set_option maxHeartbeats 40000000 in
theorem rm17_47 (l : Launch) (Z : State) (a0 : Array Value) (hw : ∀ d ∈ tables_1, d.before a0 Z = true) (ws : List Jvm.Cond)  (a1c : Addr) (h0 : Heap) (n0 : Nat) (P0 : Sta Z h0 "jdk/internal/util/Preconditions" "SIOOBE_FORMATTER" "Ljava/util/function/BiFunction;" (.ref a1c))      :
    MetFree l Y17 (head1 (Jvm.Cond.code Y17 jdk_42_method_155_code 2 none :: ws) ({ frames := 1, cells := 0, slots := 0, locals := 14 } : Room)) (fun a U => a = #[(.int (0 : Int32)), (.int (2 : Int32))] ∧ Z.Warmed39 U.vm ∧ U.heap = h0) (fun _ _ _ _ _ => True) (fun _ U o U' => ∃ v L, o = .returned v ∧ (Q17_47 Z a1c h0 n0) v U'.heap L ∧ FrameEnd U o U' L 0 0) := by
 refine MetFree.of_bodySF (plainFor_of_name pn_java_lang_String) hisR ?_
 intro p e s m args below meth c s₁ Bd hml0 hP hK
 obtain ⟨rfl, hZ, hh⟩ := hP
 have hx := Bd.exec
 have hby := Bd.bytes
 have hml : c.maxLocals = 2 := hml0
 have hown : s.vm.findClass "java/lang/String" = some m.cls := findClass_of_methodNamed Bd.named
 have hnm := (name_of_methodNamed Bd.named Bd.method).1
 have X0 : Stand p l e ({ frames := 1, cells := 0, slots := 0, locals := 14 } : Room) s m #[(.int (0 : Int32)), (.int (2 : Int32))] below meth c s₁ [] 0 0 := Stand.of_body Bd
 have e0 : s₁.heap = h0 := by rw [← hh, Bd.state]; rfl
 have N0 := Fr.nil n0
 refine GoW.mk ?_
 refine GoW.st (fun t k => castTop (ef17_rm17_47 m ) k) ?_
 show GoW p e below s (Q17_47 Z a1c h0 n0) 0 0 (s₁.setTop (mkF m 0 #[.val (.int 0), .val (.int 2)] []))
 refine GoW.sg (mkF m 1 #[.val (.int 0), .val (.int 2)] [(.int 0)]) (fun t k => XS.iloadN X0.here hx rfl (hb hby d17_0) rfl k) ?_
 refine GoW.sg (mkF m 2 #[.val (.int 0), .val (.int 2)] [(.int 2), (.int 0)]) (fun t k => XS.iloadN X0.here hx rfl (hb hby d17_1) rfl k) ?_
 obtain ⟨T437, X437, e437, st437⟩ := getS (host := "") X0 hx hZ hown (ww hw 88 rfl) Via.refl e0 P0 (g := (mkF m 2 #[.val (.int 0), .val (.int 2)] [(.int 2), (.int 0)])) rfl (hb hby d17_2)
 refine GoW.sg (mkF m 5 #[.val (.int 0), .val (.int 2)] [(.ref a1c), (.int 2), (.int 0)]) (fun t k => st437 t k) ?_
 obtain ⟨_, T438, L438, X438, hQ438, st438⟩ := own_callS X437 hx hZ hown (y := Y18) (ww hw 90 rfl) (ww hw 91 rfl) (ww hw 89 rfl) (ww hw 92 rfl) (by decide) 0 (rm18_46 l Z a0 hw [] a1c  h0 n0      ) (by decide) (by decide) e437 (by decide) (by decide) (g := (mkF m 5 #[.val (.int 0), .val (.int 2)] [(.ref a1c), (.int 2), (.int 0)])) rfl (by rw [hml]; rfl) (argsL := [(.int (0 : Int32)), (.int (2 : Int32)), (.ref a1c)]) (rest := []) (lenOf pd_28IILjava2futil2ffunction2fBiFunction3b29I rfl) rfl (by show 2 * 0 + _ ≤ _; exact Nat.le_of_eq rfl) (hb hby d17_5)
 obtain ⟨rfl, N438q, e438⟩ := hQ438
 have N438 := Fr.app N0 N438q
 refine GoW.sg (mkF m 8 #[.val (.int 0), .val (.int 2)] [(.int 0)]) (fun t k => st438 t k) ?_
 refine GoW.sg (mkF m 9 #[.val (.int 0), .val (.int 2)] []) (fun t k => XS.pop X438.here hx rfl (hb hby d17_8) rfl rfl k) ?_
 refine GoW.retV X438 hx Bd.returns (hb hby d17_9) Bd.notSynchronized ?_ (by decide) (by decide)
 rw [e438]
 exact ⟨rfl, N438, rfl⟩
def Q16_48 (Z : State) (a1c : Addr) (ka1c : ClassId) (x1c : Int32) (x2c : Int32) (a2c : Addr) (h0 : Heap) (n0 : Nat) (v : Option Value) (h : Heap) (L : List Loc) : Prop := v = some (.int (nar .char (x1c &&& (255 : Int32)).toUInt32.toUInt16.toUInt32.toInt32)) ∧ Fr n0 L ∧ (h = h0)
theorem ef16_rm16_48 (m : MethodId) (a1c : Addr) : entryFrame m #[(.ref a1c), (.int (0 : Int32))] 2 = (mkF m 0 #[.val (.ref a1c), .val (.int 0)] []) := by first | (simp [entryFrame, mkF, argsToLocals, Value.category, maxLocals]; done) | rfl
set_option maxRecDepth 65536 in
set_option maxHeartbeats 40000000 in
theorem rm16_48 (l : Launch) (Z : State) (a0 : Array Value) (hw : ∀ d ∈ tables_1, d.before a0 Z = true) (ws : List Jvm.Cond) (a1c : Addr) (ka1c : ClassId) (x1c : Int32) (x2c : Int32) (a2c : Addr) (h0 : Heap) (n0 : Nat) (P0 : Arv Z h0 a1c ka1c .byte (2 : Int32) [(.int x1c), (.int x2c)] (.int (0 : Int32))) (P1 : Sta Z h0 "jdk/internal/util/Preconditions" "SIOOBE_FORMATTER" "Ljava/util/function/BiFunction;" (.ref a2c))      :
    MetFree l Y16 (head1 (Jvm.Cond.code Y16 jdk_43_method_2_code 2 (some .char) :: ws) ({ frames := 2, cells := 0, slots := 0, locals := 27 } : Room)) (fun a U => a = #[(.ref a1c), (.int (0 : Int32))] ∧ Z.Warmed39 U.vm ∧ U.heap = h0) (fun _ _ _ _ _ => True) (fun _ U o U' => ∃ v L, o = .returned v ∧ (Q16_48 Z a1c ka1c x1c x2c a2c h0 n0) v U'.heap L ∧ FrameEnd U o U' L 0 0) := by
 refine MetFree.of_bodySF (plainFor_of_name pn_java_lang_StringLatin1) hisR ?_
 intro p e s m args below meth c s₁ Bd hml0 hP hK
 obtain ⟨rfl, hZ, hh⟩ := hP
 have hx := Bd.exec
 have hby := Bd.bytes
 have hml : c.maxLocals = 2 := hml0
 have hown : s.vm.findClass "java/lang/StringLatin1" = some m.cls := findClass_of_methodNamed Bd.named
 have hnm := (name_of_methodNamed Bd.named Bd.method).1
 have X0 : Stand p l e ({ frames := 2, cells := 0, slots := 0, locals := 27 } : Room) s m #[(.ref a1c), (.int (0 : Int32))] below meth c s₁ [] 0 0 := Stand.of_body Bd
 have e0 : s₁.heap = h0 := by rw [← hh, Bd.state]; rfl
 have N0 := Fr.nil n0
 refine GoW.mk ?_
 refine GoW.st (fun t k => castTop (ef16_rm16_48 m a1c) k) ?_
 show GoW p e below s (Q16_48 Z a1c ka1c x1c x2c a2c h0 n0) 0 0 (s₁.setTop (mkF m 0 #[.val (.ref a1c), .val (.int 0)] []))
 refine GoW.sg (mkF m 1 #[.val (.ref a1c), .val (.int 0)] [(.int 0)]) (fun t k => XS.iloadN X0.here hx rfl (hb hby d16_0) rfl k) ?_
 refine GoW.sg (mkF m 2 #[.val (.ref a1c), .val (.int 0)] [(.ref a1c), (.int 0)]) (fun t k => XS.aloadN X0.here hx rfl (hb hby d16_1) rfl rfl k) ?_
 obtain ⟨cl441, Ar441, q441, Sz441, Nn441, Hh441, Gg441⟩ := id P0
 have st441 := X0.arraylength hx (hq_ e0 Ar441.1) (State.isArrayOf_alike hZ.alike Ar441.2.1) (g := (mkF m 2 #[.val (.ref a1c), .val (.int 0)] [(.ref a1c), (.int 0)])) rfl rfl (hb hby d16_2)
 rw [len_of Sz441 Nn441] at st441
 refine GoW.sg (mkF m 3 #[.val (.ref a1c), .val (.int 0)] [(.int 2), (.int 0)]) (fun t k => st441 t k) ?_
 obtain ⟨_, T444, L444, X444, hQ444, st444⟩ := own_callS X0 hx hZ hown (y := Y17) (ww hw 85 rfl) (ww hw 86 rfl) (ww hw 7 rfl) (ww hw 87 rfl) (by decide) 0 (rm17_47 l Z a0 hw []  a2c h0 n0  P1    ) (by decide) (by decide) e0 (by decide) (by decide) (g := (mkF m 3 #[.val (.ref a1c), .val (.int 0)] [(.int 2), (.int 0)])) rfl (by rw [hml]; rfl) (argsL := [(.int (0 : Int32)), (.int (2 : Int32))]) (rest := []) (lenOf pd_28II29V rfl) rfl (by show 2 * 0 + _ ≤ _; exact Nat.le_of_eq rfl) (hb hby d16_3)
 obtain ⟨rfl, N444q, e444⟩ := hQ444
 have N444 := Fr.app N0 N444q
 refine GoW.sg (mkF m 6 #[.val (.ref a1c), .val (.int 0)] []) (fun t k => st444 t k) ?_
 refine GoW.sg (mkF m 7 #[.val (.ref a1c), .val (.int 0)] [(.ref a1c)]) (fun t k => XS.aloadN X444.here hx rfl (hb hby d16_6) rfl rfl k) ?_
 refine GoW.sg (mkF m 8 #[.val (.ref a1c), .val (.int 0)] [(.int 0), (.ref a1c)]) (fun t k => XS.iloadN X444.here hx rfl (hb hby d16_7) rfl k) ?_
 obtain ⟨cl445, Ar445, q445, Sz445, Nn445, Hh445, Gg445⟩ := id P0
 have hin445 : ¬ ((0 : Int32) < 0 ∨ cl445.slots.size ≤ ((0 : Int32)).toNatClampNeg) := inb_of Sz445 ⟨by decide, by decide⟩
 refine GoW.sg (mkF m 9 #[.val (.ref a1c), .val (.int 0)] [(.int x1c)]) (fun t k => X444.baloadBytes hx (j := (0 : Int32)) (v := (.int x1c)) (hq_ e444 Ar445.1) (State.isArrayOf_alike hZ.alike Ar445.2.1) Ar445.2.2 hin445 (Hh445.at hin445 rfl) (g := (mkF m 8 #[.val (.ref a1c), .val (.int 0)] [(.int 0), (.ref a1c)])) rfl rfl (hb hby d16_8) t k) ?_
 refine GoW.sg (mkF m 12 #[.val (.ref a1c), .val (.int 0)] [(.int 255), (.int x1c)]) (fun t k => XS.sipush X444.here hx rfl (hb hby d16_9) k) ?_
 refine GoW.sg (mkF m 13 #[.val (.ref a1c), .val (.int 0)] [(.int (x1c &&& (255 : Int32)))]) (fun t k => XS.iand X444.here hx rfl (hb hby d16_12) rfl k) ?_
 refine GoW.sg (mkF m 14 #[.val (.ref a1c), .val (.int 0)] [(.int (x1c &&& (255 : Int32)).toUInt32.toUInt16.toUInt32.toInt32)]) (fun t k => XS.i2c X444.here hx rfl (hb hby d16_13) rfl k) ?_
 refine GoW.retN X444 hx (t := .char) Bd.returns (by simp) (hb hby d16_14) Bd.notSynchronized ?_ (by decide) (by decide)
 rw [e444]
 exact ⟨rfl, N444, rfl⟩
def Q14_49 (Z : State) (a1c : Addr) (a2c : Addr) (ka2c : ClassId) (x1c : Int32) (x2c : Int32) (x3c : Int32) (a3c : Addr) (h0 : Heap) (n0 : Nat) (v : Option Value) (h : Heap) (L : List Loc) : Prop := v = some (.int (nar .char (nar .char (x1c &&& (255 : Int32)).toUInt32.toUInt16.toUInt32.toInt32))) ∧ Fr n0 L ∧ (h = h0)
theorem ef14_rm14_49 (m : MethodId) (a1c : Addr) : entryFrame m #[(.ref a1c), (.int (0 : Int32))] 2 = (mkF m 0 #[.val (.ref a1c), .val (.int 0)] []) := by first | (simp [entryFrame, mkF, argsToLocals, Value.category, maxLocals]; done) | rfl
set_option maxRecDepth 65536 in
set_option maxHeartbeats 40000000 in
theorem rm14_49 (l : Launch) (Z : State) (a0 : Array Value) (hw : ∀ d ∈ tables_1, d.before a0 Z = true) (ws : List Jvm.Cond) (a1c : Addr) (a2c : Addr) (ka2c : ClassId) (x1c : Int32) (x2c : Int32) (x3c : Int32) (a3c : Addr) (h0 : Heap) (n0 : Nat) (P0 : Exa Z h0 a1c "java/lang/String") (P1 : Fld Z h0 a1c "java/lang/String" "coder" "B" (.int (0 : Int32))) (P2 : Fld Z h0 a1c "java/lang/String" "value" "[B" (.ref a2c)) (P3 : Arv Z h0 a2c ka2c .byte (2 : Int32) [(.int x1c), (.int x2c)] (.int (0 : Int32))) (P4 : Sta Z h0 "java/lang/String" "COMPACT_STRINGS" "Z" (.int x3c)) (P5 : Sta Z h0 "jdk/internal/util/Preconditions" "SIOOBE_FORMATTER" "Ljava/util/function/BiFunction;" (.ref a3c))   (u0 : ¬ (x3c = (0 : Int32)))   :
    MetFree l Y14 (head1 (Jvm.Cond.code Y14 jdk_42_method_56_code 2 (some .char) :: ws) ({ frames := 3, cells := 0, slots := 0, locals := 40 } : Room)) (fun a U => a = #[(.ref a1c), (.int (0 : Int32))] ∧ Z.Warmed39 U.vm ∧ U.heap = h0) (fun _ _ _ _ _ => True) (fun _ U o U' => ∃ v L, o = .returned v ∧ (Q14_49 Z a1c a2c ka2c x1c x2c x3c a3c h0 n0) v U'.heap L ∧ FrameEnd U o U' L 0 0) := by
 refine MetFree.of_bodySF (plainFor_of_name pn_java_lang_String) hisR ?_
 intro p e s m args below meth c s₁ Bd hml0 hP hK
 obtain ⟨rfl, hZ, hh⟩ := hP
 have hx := Bd.exec
 have hby := Bd.bytes
 have hml : c.maxLocals = 2 := hml0
 have hown : s.vm.findClass "java/lang/String" = some m.cls := findClass_of_methodNamed Bd.named
 have hnm := (name_of_methodNamed Bd.named Bd.method).1
 have X0 : Stand p l e ({ frames := 3, cells := 0, slots := 0, locals := 40 } : Room) s m #[(.ref a1c), (.int (0 : Int32))] below meth c s₁ [] 0 0 := Stand.of_body Bd
 have e0 : s₁.heap = h0 := by rw [← hh, Bd.state]; rfl
 have N0 := Fr.nil n0
 refine GoW.mk ?_
 refine GoW.st (fun t k => castTop (ef14_rm14_49 m a1c) k) ?_
 show GoW p e below s (Q14_49 Z a1c a2c ka2c x1c x2c x3c a3c h0 n0) 0 0 (s₁.setTop (mkF m 0 #[.val (.ref a1c), .val (.int 0)] []))
 refine GoW.sg (mkF m 1 #[.val (.ref a1c), .val (.int 0)] [(.ref a1c)]) (fun t k => XS.aloadN X0.here hx rfl (hb hby d14_0) rfl rfl k) ?_
 obtain ⟨cq447, kq447, q447a, q447b, q447c⟩ := isOf hZ e0 P0
 obtain ⟨_, _, ⟨T447, L447, k447, n447⟩, -, X447, ⟨Lc447, hQ447, l447, y447, z447⟩, st447⟩ := X0.virtualBack hx (y := Y15) (z := Y15) hown (mvT hZ (ww hw 76 rfl)) (mvT hZ (ww hw 77 rfl)) (notFace_of_selects (args := #[]) (mvT hZ (ww hw 79 rfl))) (mvT hZ (ww hw 79 rfl)) (mvT hZ (ww hw 78 rfl)) (by decide) (backOf (W := 0) (rm15_13 l Z a0 hw [] a1c x3c h0 n0  P1 P4   u0 ) hZ (ww hw 80 rfl) (ww hw 7 rfl) (by decide) (by decide)) q447a q447c (g := (mkF m 1 #[.val (.ref a1c), .val (.int 0)] [(.ref a1c)])) rfl (by rw [hml]; rfl) (Steps.refl _) (argsL := []) (rest := []) (lenOf pd_2829Z rfl) rfl (by show 2 * 0 + _ ≤ _; exact Nat.le_of_eq rfl) (hb hby d14_1) (fun _ _ => ⟨rfl, e0, (by decide : 0 + 0 ≤ _), (by decide : 0 + 0 ≤ _)⟩)
 dsimp only [Pt.U, Pt.locs, Pt.cells, Pt.slots] at X447 l447 y447 z447 st447 hQ447
 subst l447 y447 z447
 obtain ⟨rfl, N447q, e447⟩ := hQ447
 have N447 := Fr.app N0 N447q
 refine GoW.sg (mkF m 4 #[.val (.ref a1c), .val (.int 0)] [(.int 1)]) (fun t k => st447.trans k) ?_
 refine GoW.sg (mkF m 7 #[.val (.ref a1c), .val (.int 0)] []) (fun t k => XS.ifNo X447.here hx rfl (hb hby d14_4) rfl (by decide) k) ?_
 refine GoW.sg (mkF m 8 #[.val (.ref a1c), .val (.int 0)] [(.ref a1c)]) (fun t k => XS.aloadN X447.here hx rfl (hb hby d14_7) rfl rfl k) ?_
 obtain ⟨T448, X448, e448, st448⟩ := getF X447 hx hZ hown (host := "") (Or.inl (ww hw 33 rfl)) Via.refl e447 P2 (g := (mkF m 8 #[.val (.ref a1c), .val (.int 0)] [(.ref a1c)])) rfl rfl (hb hby d14_8)
 refine GoW.sg (mkF m 11 #[.val (.ref a1c), .val (.int 0)] [(.ref a2c)]) (fun t k => st448 t k) ?_
 refine GoW.sg (mkF m 12 #[.val (.ref a1c), .val (.int 0)] [(.int 0), (.ref a2c)]) (fun t k => XS.iloadN X448.here hx rfl (hb hby d14_11) rfl k) ?_
 obtain ⟨_, T449, L449, X449, hQ449, st449⟩ := own_callS X448 hx hZ hown (y := Y16) (ww hw 81 rfl) (ww hw 82 rfl) (ww hw 83 rfl) (ww hw 84 rfl) (by decide) 0 (rm16_48 l Z a0 hw [] a2c ka2c x1c x2c a3c h0 n0  P3 P5    ) (by decide) (by decide) e448 (by decide) (by decide) (g := (mkF m 12 #[.val (.ref a1c), .val (.int 0)] [(.int 0), (.ref a2c)])) rfl (by rw [hml]; rfl) (argsL := [(.ref a2c), (.int (0 : Int32))]) (rest := []) (lenOf pd_285bBI29C rfl) rfl (by show 2 * 0 + _ ≤ _; exact Nat.le_of_eq rfl) (hb hby d14_12)
 obtain ⟨rfl, N449q, e449⟩ := hQ449
 have N449 := Fr.app N447 N449q
 refine GoW.sg (mkF m 15 #[.val (.ref a1c), .val (.int 0)] [(.int (nar .char (x1c &&& (255 : Int32)).toUInt32.toUInt16.toUInt32.toInt32))]) (fun t k => st449 t k) ?_
 refine GoW.retN X449 hx (t := .char) Bd.returns (by simp) (hb hby d14_15) Bd.notSynchronized ?_ (by decide) (by decide)
 rw [e449]
 exact ⟨rfl, N449, rfl⟩
def Q18_50 (Z : State) (a1c : Addr) (h0 : Heap) (n0 : Nat) (v : Option Value) (h : Heap) (L : List Loc) : Prop := v = some (.int (1 : Int32)) ∧ Fr n0 L ∧ (h = h0)
theorem ef18_rm18_50 (m : MethodId) (a1c : Addr) : entryFrame m #[(.int (1 : Int32)), (.int (2 : Int32)), (.ref a1c)] 3 = (mkF m 0 #[.val (.int 1), .val (.int 2), .val (.ref a1c)] []) := by first | (simp [entryFrame, mkF, argsToLocals, Value.category, maxLocals]; done) | rfl
set_option maxRecDepth 65536 in
set_option maxHeartbeats 40000000 in
theorem rm18_50 (l : Launch) (Z : State) (a0 : Array Value) (hw : ∀ d ∈ tables_1, d.before a0 Z = true) (ws : List Jvm.Cond) (a1c : Addr)  (h0 : Heap) (n0 : Nat)       :
    MetFree l Y18 (head1 (Jvm.Cond.code Y18 jdk_41_method_11_code 3 (some .int) :: ws) ({ frames := 0, cells := 0, slots := 0, locals := 0 } : Room)) (fun a U => a = #[(.int (1 : Int32)), (.int (2 : Int32)), (.ref a1c)] ∧ Z.Warmed39 U.vm ∧ U.heap = h0) (fun _ _ _ _ _ => True) (fun _ U o U' => ∃ v L, o = .returned v ∧ (Q18_50 Z a1c h0 n0) v U'.heap L ∧ FrameEnd U o U' L 0 0) := by
 refine MetFree.of_bodySF (plainFor_of_name pn_jdk_internal_util_Preconditions) hisR ?_
 intro p e s m args below meth c s₁ Bd hml0 hP hK
 obtain ⟨rfl, hZ, hh⟩ := hP
 have hx := Bd.exec
 have hby := Bd.bytes
 have hml : c.maxLocals = 3 := hml0
 have hown : s.vm.findClass "jdk/internal/util/Preconditions" = some m.cls := findClass_of_methodNamed Bd.named
 have hnm := (name_of_methodNamed Bd.named Bd.method).1
 have X0 : Stand p l e ({ frames := 0, cells := 0, slots := 0, locals := 0 } : Room) s m #[(.int (1 : Int32)), (.int (2 : Int32)), (.ref a1c)] below meth c s₁ [] 0 0 := Stand.of_body Bd
 have e0 : s₁.heap = h0 := by rw [← hh, Bd.state]; rfl
 have N0 := Fr.nil n0
 refine GoW.mk ?_
 refine GoW.st (fun t k => castTop (ef18_rm18_50 m a1c) k) ?_
 show GoW p e below s (Q18_50 Z a1c h0 n0) 0 0 (s₁.setTop (mkF m 0 (Sh21 1 2 a1c) []))
 refine GoW.sg (mkF m 1 (Sh21 1 2 a1c) [(.int 1)]) (fun t k => XS.iloadN X0.here hx rfl (hb hby d18_0) rfl k) ?_
 refine GoW.sg (mkF m 4 (Sh21 1 2 a1c) []) (fun t k => XS.ifNo X0.here hx rfl (hb hby d18_1) rfl (by decide) k) ?_
 refine GoW.sg (mkF m 5 (Sh21 1 2 a1c) [(.int 1)]) (fun t k => XS.iloadN X0.here hx rfl (hb hby d18_4) rfl k) ?_
 refine GoW.sg (mkF m 6 (Sh21 1 2 a1c) [(.int 2), (.int 1)]) (fun t k => XS.iloadN X0.here hx rfl (hb hby d18_5) rfl k) ?_
 refine GoW.sg (mkF m 16 (Sh21 1 2 a1c) []) (fun t k => XS.icmpYes X0.here hx rfl (pc0 := 6) (pc' := 16) rfl (hb hby d18_6) rfl (by decide) (by decide) (by decide) k) ?_
 refine GoW.sg (mkF m 17 (Sh21 1 2 a1c) [(.int 1)]) (fun t k => XS.iloadN X0.here hx rfl (hb hby d18_16) rfl k) ?_
 refine GoW.retI X0 hx Bd.returns (hb hby d18_17) Bd.notSynchronized ?_ (by decide) (by decide)
 rw [e0]
 exact ⟨rfl, N0, rfl⟩
def Q17_51 (Z : State) (a1c : Addr) (h0 : Heap) (n0 : Nat) (v : Option Value) (h : Heap) (L : List Loc) : Prop := v = none ∧ Fr n0 L ∧ (h = h0)
theorem ef17_rm17_51 (m : MethodId)  : entryFrame m #[(.int (1 : Int32)), (.int (2 : Int32))] 2 = (mkF m 0 #[.val (.int 1), .val (.int 2)] []) := by first | (simp [entryFrame, mkF, argsToLocals, Value.category, maxLocals]; done) | rfl
set_option maxRecDepth 65536 in
set_option maxHeartbeats 40000000 in
theorem rm17_51 (l : Launch) (Z : State) (a0 : Array Value) (hw : ∀ d ∈ tables_1, d.before a0 Z = true) (ws : List Jvm.Cond)  (a1c : Addr) (h0 : Heap) (n0 : Nat) (P0 : Sta Z h0 "jdk/internal/util/Preconditions" "SIOOBE_FORMATTER" "Ljava/util/function/BiFunction;" (.ref a1c))      :
    MetFree l Y17 (head1 (Jvm.Cond.code Y17 jdk_42_method_155_code 2 none :: ws) ({ frames := 1, cells := 0, slots := 0, locals := 14 } : Room)) (fun a U => a = #[(.int (1 : Int32)), (.int (2 : Int32))] ∧ Z.Warmed39 U.vm ∧ U.heap = h0) (fun _ _ _ _ _ => True) (fun _ U o U' => ∃ v L, o = .returned v ∧ (Q17_51 Z a1c h0 n0) v U'.heap L ∧ FrameEnd U o U' L 0 0) := by
 refine MetFree.of_bodySF (plainFor_of_name pn_java_lang_String) hisR ?_
 intro p e s m args below meth c s₁ Bd hml0 hP hK
 obtain ⟨rfl, hZ, hh⟩ := hP
 have hx := Bd.exec
 have hby := Bd.bytes
 have hml : c.maxLocals = 2 := hml0
 have hown : s.vm.findClass "java/lang/String" = some m.cls := findClass_of_methodNamed Bd.named
 have hnm := (name_of_methodNamed Bd.named Bd.method).1
 have X0 : Stand p l e ({ frames := 1, cells := 0, slots := 0, locals := 14 } : Room) s m #[(.int (1 : Int32)), (.int (2 : Int32))] below meth c s₁ [] 0 0 := Stand.of_body Bd
 have e0 : s₁.heap = h0 := by rw [← hh, Bd.state]; rfl
 have N0 := Fr.nil n0
 refine GoW.mk ?_
 refine GoW.st (fun t k => castTop (ef17_rm17_51 m ) k) ?_
 show GoW p e below s (Q17_51 Z a1c h0 n0) 0 0 (s₁.setTop (mkF m 0 #[.val (.int 1), .val (.int 2)] []))
 refine GoW.sg (mkF m 1 #[.val (.int 1), .val (.int 2)] [(.int 1)]) (fun t k => XS.iloadN X0.here hx rfl (hb hby d17_0) rfl k) ?_
 refine GoW.sg (mkF m 2 #[.val (.int 1), .val (.int 2)] [(.int 2), (.int 1)]) (fun t k => XS.iloadN X0.here hx rfl (hb hby d17_1) rfl k) ?_
 obtain ⟨T456, X456, e456, st456⟩ := getS (host := "") X0 hx hZ hown (ww hw 88 rfl) Via.refl e0 P0 (g := (mkF m 2 #[.val (.int 1), .val (.int 2)] [(.int 2), (.int 1)])) rfl (hb hby d17_2)
 refine GoW.sg (mkF m 5 #[.val (.int 1), .val (.int 2)] [(.ref a1c), (.int 2), (.int 1)]) (fun t k => st456 t k) ?_
 obtain ⟨_, T457, L457, X457, hQ457, st457⟩ := own_callS X456 hx hZ hown (y := Y18) (ww hw 90 rfl) (ww hw 91 rfl) (ww hw 89 rfl) (ww hw 92 rfl) (by decide) 0 (rm18_50 l Z a0 hw [] a1c  h0 n0      ) (by decide) (by decide) e456 (by decide) (by decide) (g := (mkF m 5 #[.val (.int 1), .val (.int 2)] [(.ref a1c), (.int 2), (.int 1)])) rfl (by rw [hml]; rfl) (argsL := [(.int (1 : Int32)), (.int (2 : Int32)), (.ref a1c)]) (rest := []) (lenOf pd_28IILjava2futil2ffunction2fBiFunction3b29I rfl) rfl (by show 2 * 0 + _ ≤ _; exact Nat.le_of_eq rfl) (hb hby d17_5)
 obtain ⟨rfl, N457q, e457⟩ := hQ457
 have N457 := Fr.app N0 N457q
 refine GoW.sg (mkF m 8 #[.val (.int 1), .val (.int 2)] [(.int 1)]) (fun t k => st457 t k) ?_
 refine GoW.sg (mkF m 9 #[.val (.int 1), .val (.int 2)] []) (fun t k => XS.pop X457.here hx rfl (hb hby d17_8) rfl rfl k) ?_
 refine GoW.retV X457 hx Bd.returns (hb hby d17_9) Bd.notSynchronized ?_ (by decide) (by decide)
 rw [e457]
 exact ⟨rfl, N457, rfl⟩
def Q16_52 (Z : State) (a1c : Addr) (ka1c : ClassId) (x1c : Int32) (x2c : Int32) (a2c : Addr) (h0 : Heap) (n0 : Nat) (v : Option Value) (h : Heap) (L : List Loc) : Prop := v = some (.int (nar .char (x2c &&& (255 : Int32)).toUInt32.toUInt16.toUInt32.toInt32)) ∧ Fr n0 L ∧ (h = h0)
theorem ef16_rm16_52 (m : MethodId) (a1c : Addr) : entryFrame m #[(.ref a1c), (.int (1 : Int32))] 2 = (mkF m 0 #[.val (.ref a1c), .val (.int 1)] []) := by first | (simp [entryFrame, mkF, argsToLocals, Value.category, maxLocals]; done) | rfl
set_option maxRecDepth 65536 in
set_option maxHeartbeats 40000000 in
theorem rm16_52 (l : Launch) (Z : State) (a0 : Array Value) (hw : ∀ d ∈ tables_1, d.before a0 Z = true) (ws : List Jvm.Cond) (a1c : Addr) (ka1c : ClassId) (x1c : Int32) (x2c : Int32) (a2c : Addr) (h0 : Heap) (n0 : Nat) (P0 : Arv Z h0 a1c ka1c .byte (2 : Int32) [(.int x1c), (.int x2c)] (.int (0 : Int32))) (P1 : Sta Z h0 "jdk/internal/util/Preconditions" "SIOOBE_FORMATTER" "Ljava/util/function/BiFunction;" (.ref a2c))      :
    MetFree l Y16 (head1 (Jvm.Cond.code Y16 jdk_43_method_2_code 2 (some .char) :: ws) ({ frames := 2, cells := 0, slots := 0, locals := 27 } : Room)) (fun a U => a = #[(.ref a1c), (.int (1 : Int32))] ∧ Z.Warmed39 U.vm ∧ U.heap = h0) (fun _ _ _ _ _ => True) (fun _ U o U' => ∃ v L, o = .returned v ∧ (Q16_52 Z a1c ka1c x1c x2c a2c h0 n0) v U'.heap L ∧ FrameEnd U o U' L 0 0) := by
 refine MetFree.of_bodySF (plainFor_of_name pn_java_lang_StringLatin1) hisR ?_
 intro p e s m args below meth c s₁ Bd hml0 hP hK
 obtain ⟨rfl, hZ, hh⟩ := hP
 have hx := Bd.exec
 have hby := Bd.bytes
 have hml : c.maxLocals = 2 := hml0
 have hown : s.vm.findClass "java/lang/StringLatin1" = some m.cls := findClass_of_methodNamed Bd.named
 have hnm := (name_of_methodNamed Bd.named Bd.method).1
 have X0 : Stand p l e ({ frames := 2, cells := 0, slots := 0, locals := 27 } : Room) s m #[(.ref a1c), (.int (1 : Int32))] below meth c s₁ [] 0 0 := Stand.of_body Bd
 have e0 : s₁.heap = h0 := by rw [← hh, Bd.state]; rfl
 have N0 := Fr.nil n0
 refine GoW.mk ?_
 refine GoW.st (fun t k => castTop (ef16_rm16_52 m a1c) k) ?_
 show GoW p e below s (Q16_52 Z a1c ka1c x1c x2c a2c h0 n0) 0 0 (s₁.setTop (mkF m 0 #[.val (.ref a1c), .val (.int 1)] []))
 refine GoW.sg (mkF m 1 #[.val (.ref a1c), .val (.int 1)] [(.int 1)]) (fun t k => XS.iloadN X0.here hx rfl (hb hby d16_0) rfl k) ?_
 refine GoW.sg (mkF m 2 #[.val (.ref a1c), .val (.int 1)] [(.ref a1c), (.int 1)]) (fun t k => XS.aloadN X0.here hx rfl (hb hby d16_1) rfl rfl k) ?_
 obtain ⟨cl460, Ar460, q460, Sz460, Nn460, Hh460, Gg460⟩ := id P0
 have st460 := X0.arraylength hx (hq_ e0 Ar460.1) (State.isArrayOf_alike hZ.alike Ar460.2.1) (g := (mkF m 2 #[.val (.ref a1c), .val (.int 1)] [(.ref a1c), (.int 1)])) rfl rfl (hb hby d16_2)
 rw [len_of Sz460 Nn460] at st460
 refine GoW.sg (mkF m 3 #[.val (.ref a1c), .val (.int 1)] [(.int 2), (.int 1)]) (fun t k => st460 t k) ?_
 obtain ⟨_, T463, L463, X463, hQ463, st463⟩ := own_callS X0 hx hZ hown (y := Y17) (ww hw 85 rfl) (ww hw 86 rfl) (ww hw 7 rfl) (ww hw 87 rfl) (by decide) 0 (rm17_51 l Z a0 hw []  a2c h0 n0  P1    ) (by decide) (by decide) e0 (by decide) (by decide) (g := (mkF m 3 #[.val (.ref a1c), .val (.int 1)] [(.int 2), (.int 1)])) rfl (by rw [hml]; rfl) (argsL := [(.int (1 : Int32)), (.int (2 : Int32))]) (rest := []) (lenOf pd_28II29V rfl) rfl (by show 2 * 0 + _ ≤ _; exact Nat.le_of_eq rfl) (hb hby d16_3)
 obtain ⟨rfl, N463q, e463⟩ := hQ463
 have N463 := Fr.app N0 N463q
 refine GoW.sg (mkF m 6 #[.val (.ref a1c), .val (.int 1)] []) (fun t k => st463 t k) ?_
 refine GoW.sg (mkF m 7 #[.val (.ref a1c), .val (.int 1)] [(.ref a1c)]) (fun t k => XS.aloadN X463.here hx rfl (hb hby d16_6) rfl rfl k) ?_
 refine GoW.sg (mkF m 8 #[.val (.ref a1c), .val (.int 1)] [(.int 1), (.ref a1c)]) (fun t k => XS.iloadN X463.here hx rfl (hb hby d16_7) rfl k) ?_
 obtain ⟨cl464, Ar464, q464, Sz464, Nn464, Hh464, Gg464⟩ := id P0
 have hin464 : ¬ ((1 : Int32) < 0 ∨ cl464.slots.size ≤ ((1 : Int32)).toNatClampNeg) := inb_of Sz464 ⟨by decide, by decide⟩
 refine GoW.sg (mkF m 9 #[.val (.ref a1c), .val (.int 1)] [(.int x2c)]) (fun t k => X463.baloadBytes hx (j := (1 : Int32)) (v := (.int x2c)) (hq_ e463 Ar464.1) (State.isArrayOf_alike hZ.alike Ar464.2.1) Ar464.2.2 hin464 (Hh464.at hin464 rfl) (g := (mkF m 8 #[.val (.ref a1c), .val (.int 1)] [(.int 1), (.ref a1c)])) rfl rfl (hb hby d16_8) t k) ?_
 refine GoW.sg (mkF m 12 #[.val (.ref a1c), .val (.int 1)] [(.int 255), (.int x2c)]) (fun t k => XS.sipush X463.here hx rfl (hb hby d16_9) k) ?_
 refine GoW.sg (mkF m 13 #[.val (.ref a1c), .val (.int 1)] [(.int (x2c &&& (255 : Int32)))]) (fun t k => XS.iand X463.here hx rfl (hb hby d16_12) rfl k) ?_
 refine GoW.sg (mkF m 14 #[.val (.ref a1c), .val (.int 1)] [(.int (x2c &&& (255 : Int32)).toUInt32.toUInt16.toUInt32.toInt32)]) (fun t k => XS.i2c X463.here hx rfl (hb hby d16_13) rfl k) ?_
 refine GoW.retN X463 hx (t := .char) Bd.returns (by simp) (hb hby d16_14) Bd.notSynchronized ?_ (by decide) (by decide)
 rw [e463]
 exact ⟨rfl, N463, rfl⟩
def Q14_53 (Z : State) (a1c : Addr) (a2c : Addr) (ka2c : ClassId) (x1c : Int32) (x2c : Int32) (x3c : Int32) (a3c : Addr) (h0 : Heap) (n0 : Nat) (v : Option Value) (h : Heap) (L : List Loc) : Prop := v = some (.int (nar .char (nar .char (x2c &&& (255 : Int32)).toUInt32.toUInt16.toUInt32.toInt32))) ∧ Fr n0 L ∧ (h = h0)
theorem ef14_rm14_53 (m : MethodId) (a1c : Addr) : entryFrame m #[(.ref a1c), (.int (1 : Int32))] 2 = (mkF m 0 #[.val (.ref a1c), .val (.int 1)] []) := by first | (simp [entryFrame, mkF, argsToLocals, Value.category, maxLocals]; done) | rfl
set_option maxRecDepth 65536 in
set_option maxHeartbeats 40000000 in
theorem rm14_53 (l : Launch) (Z : State) (a0 : Array Value) (hw : ∀ d ∈ tables_1, d.before a0 Z = true) (ws : List Jvm.Cond) (a1c : Addr) (a2c : Addr) (ka2c : ClassId) (x1c : Int32) (x2c : Int32) (x3c : Int32) (a3c : Addr) (h0 : Heap) (n0 : Nat) (P0 : Exa Z h0 a1c "java/lang/String") (P1 : Fld Z h0 a1c "java/lang/String" "coder" "B" (.int (0 : Int32))) (P2 : Fld Z h0 a1c "java/lang/String" "value" "[B" (.ref a2c)) (P3 : Arv Z h0 a2c ka2c .byte (2 : Int32) [(.int x1c), (.int x2c)] (.int (0 : Int32))) (P4 : Sta Z h0 "java/lang/String" "COMPACT_STRINGS" "Z" (.int x3c)) (P5 : Sta Z h0 "jdk/internal/util/Preconditions" "SIOOBE_FORMATTER" "Ljava/util/function/BiFunction;" (.ref a3c))   (u0 : ¬ (x3c = (0 : Int32)))   :
    MetFree l Y14 (head1 (Jvm.Cond.code Y14 jdk_42_method_56_code 2 (some .char) :: ws) ({ frames := 3, cells := 0, slots := 0, locals := 40 } : Room)) (fun a U => a = #[(.ref a1c), (.int (1 : Int32))] ∧ Z.Warmed39 U.vm ∧ U.heap = h0) (fun _ _ _ _ _ => True) (fun _ U o U' => ∃ v L, o = .returned v ∧ (Q14_53 Z a1c a2c ka2c x1c x2c x3c a3c h0 n0) v U'.heap L ∧ FrameEnd U o U' L 0 0) := by
 refine MetFree.of_bodySF (plainFor_of_name pn_java_lang_String) hisR ?_
 intro p e s m args below meth c s₁ Bd hml0 hP hK
 obtain ⟨rfl, hZ, hh⟩ := hP
 have hx := Bd.exec
 have hby := Bd.bytes
 have hml : c.maxLocals = 2 := hml0
 have hown : s.vm.findClass "java/lang/String" = some m.cls := findClass_of_methodNamed Bd.named
 have hnm := (name_of_methodNamed Bd.named Bd.method).1
 have X0 : Stand p l e ({ frames := 3, cells := 0, slots := 0, locals := 40 } : Room) s m #[(.ref a1c), (.int (1 : Int32))] below meth c s₁ [] 0 0 := Stand.of_body Bd
 have e0 : s₁.heap = h0 := by rw [← hh, Bd.state]; rfl
 have N0 := Fr.nil n0
 refine GoW.mk ?_
 refine GoW.st (fun t k => castTop (ef14_rm14_53 m a1c) k) ?_
 show GoW p e below s (Q14_53 Z a1c a2c ka2c x1c x2c x3c a3c h0 n0) 0 0 (s₁.setTop (mkF m 0 #[.val (.ref a1c), .val (.int 1)] []))
 refine GoW.sg (mkF m 1 #[.val (.ref a1c), .val (.int 1)] [(.ref a1c)]) (fun t k => XS.aloadN X0.here hx rfl (hb hby d14_0) rfl rfl k) ?_
 obtain ⟨cq466, kq466, q466a, q466b, q466c⟩ := isOf hZ e0 P0
 obtain ⟨_, _, ⟨T466, L466, k466, n466⟩, -, X466, ⟨Lc466, hQ466, l466, y466, z466⟩, st466⟩ := X0.virtualBack hx (y := Y15) (z := Y15) hown (mvT hZ (ww hw 76 rfl)) (mvT hZ (ww hw 77 rfl)) (notFace_of_selects (args := #[]) (mvT hZ (ww hw 79 rfl))) (mvT hZ (ww hw 79 rfl)) (mvT hZ (ww hw 78 rfl)) (by decide) (backOf (W := 0) (rm15_13 l Z a0 hw [] a1c x3c h0 n0  P1 P4   u0 ) hZ (ww hw 80 rfl) (ww hw 7 rfl) (by decide) (by decide)) q466a q466c (g := (mkF m 1 #[.val (.ref a1c), .val (.int 1)] [(.ref a1c)])) rfl (by rw [hml]; rfl) (Steps.refl _) (argsL := []) (rest := []) (lenOf pd_2829Z rfl) rfl (by show 2 * 0 + _ ≤ _; exact Nat.le_of_eq rfl) (hb hby d14_1) (fun _ _ => ⟨rfl, e0, (by decide : 0 + 0 ≤ _), (by decide : 0 + 0 ≤ _)⟩)
 dsimp only [Pt.U, Pt.locs, Pt.cells, Pt.slots] at X466 l466 y466 z466 st466 hQ466
 subst l466 y466 z466
 obtain ⟨rfl, N466q, e466⟩ := hQ466
 have N466 := Fr.app N0 N466q
 refine GoW.sg (mkF m 4 #[.val (.ref a1c), .val (.int 1)] [(.int 1)]) (fun t k => st466.trans k) ?_
 refine GoW.sg (mkF m 7 #[.val (.ref a1c), .val (.int 1)] []) (fun t k => XS.ifNo X466.here hx rfl (hb hby d14_4) rfl (by decide) k) ?_
 refine GoW.sg (mkF m 8 #[.val (.ref a1c), .val (.int 1)] [(.ref a1c)]) (fun t k => XS.aloadN X466.here hx rfl (hb hby d14_7) rfl rfl k) ?_
 obtain ⟨T467, X467, e467, st467⟩ := getF X466 hx hZ hown (host := "") (Or.inl (ww hw 33 rfl)) Via.refl e466 P2 (g := (mkF m 8 #[.val (.ref a1c), .val (.int 1)] [(.ref a1c)])) rfl rfl (hb hby d14_8)
 refine GoW.sg (mkF m 11 #[.val (.ref a1c), .val (.int 1)] [(.ref a2c)]) (fun t k => st467 t k) ?_
 refine GoW.sg (mkF m 12 #[.val (.ref a1c), .val (.int 1)] [(.int 1), (.ref a2c)]) (fun t k => XS.iloadN X467.here hx rfl (hb hby d14_11) rfl k) ?_
 obtain ⟨_, T468, L468, X468, hQ468, st468⟩ := own_callS X467 hx hZ hown (y := Y16) (ww hw 81 rfl) (ww hw 82 rfl) (ww hw 83 rfl) (ww hw 84 rfl) (by decide) 0 (rm16_52 l Z a0 hw [] a2c ka2c x1c x2c a3c h0 n0  P3 P5    ) (by decide) (by decide) e467 (by decide) (by decide) (g := (mkF m 12 #[.val (.ref a1c), .val (.int 1)] [(.int 1), (.ref a2c)])) rfl (by rw [hml]; rfl) (argsL := [(.ref a2c), (.int (1 : Int32))]) (rest := []) (lenOf pd_285bBI29C rfl) rfl (by show 2 * 0 + _ ≤ _; exact Nat.le_of_eq rfl) (hb hby d14_12)
 obtain ⟨rfl, N468q, e468⟩ := hQ468
 have N468 := Fr.app N466 N468q
 refine GoW.sg (mkF m 15 #[.val (.ref a1c), .val (.int 1)] [(.int (nar .char (x2c &&& (255 : Int32)).toUInt32.toUInt16.toUInt32.toInt32))]) (fun t k => st468 t k) ?_
 refine GoW.retN X468 hx (t := .char) Bd.returns (by simp) (hb hby d14_15) Bd.notSynchronized ?_ (by decide) (by decide)
 rw [e468]
 exact ⟨rfl, N468, rfl⟩
def Q11_54 (Z : State) (a1c : Addr) (a2c : Addr) (ka2c : ClassId) (x1c : Int32) (x2c : Int32) (x3c : Int32) (h0 : Heap) (n0 : Nat) (v : Option Value) (h : Heap) (L : List Loc) : Prop := v = some (.int (0 : Int32)) ∧ Fr n0 L ∧ (h = h0)
theorem ef11_rm11_54 (m : MethodId) (a1c : Addr) : entryFrame m #[(.ref a1c)] 1 = (mkF m 0 #[.val (.ref a1c)] []) := by first | (simp [entryFrame, mkF, argsToLocals, Value.category, maxLocals]; done) | rfl
set_option maxRecDepth 65536 in
set_option maxHeartbeats 40000000 in
theorem rm11_54 (l : Launch) (Z : State) (a0 : Array Value) (hw : ∀ d ∈ tables_1, d.before a0 Z = true) (ws : List Jvm.Cond) (a1c : Addr) (a2c : Addr) (ka2c : ClassId) (x1c : Int32) (x2c : Int32) (x3c : Int32) (h0 : Heap) (n0 : Nat) (P0 : Fld Z h0 a1c "java/lang/String" "value" "[B" (.ref a2c)) (P1 : Arv Z h0 a2c ka2c .byte (3 : Int32) [(.int x1c), (.int x2c), (.int x3c)] (.int (0 : Int32)))      :
    MetFree l Y11 (head1 (Jvm.Cond.code Y11 jdk_42_method_55_code 1 (some .boolean) :: ws) ({ frames := 0, cells := 0, slots := 0, locals := 0 } : Room)) (fun a U => a = #[(.ref a1c)] ∧ Z.Warmed39 U.vm ∧ U.heap = h0) (fun _ _ _ _ _ => True) (fun _ U o U' => ∃ v L, o = .returned v ∧ (Q11_54 Z a1c a2c ka2c x1c x2c x3c h0 n0) v U'.heap L ∧ FrameEnd U o U' L 0 0) := by
 refine MetFree.of_bodySF (plainFor_of_name pn_java_lang_String) hisR ?_
 intro p e s m args below meth c s₁ Bd hml0 hP hK
 obtain ⟨rfl, hZ, hh⟩ := hP
 have hx := Bd.exec
 have hby := Bd.bytes
 have hml : c.maxLocals = 1 := hml0
 have hown : s.vm.findClass "java/lang/String" = some m.cls := findClass_of_methodNamed Bd.named
 have hnm := (name_of_methodNamed Bd.named Bd.method).1
 have X0 : Stand p l e ({ frames := 0, cells := 0, slots := 0, locals := 0 } : Room) s m #[(.ref a1c)] below meth c s₁ [] 0 0 := Stand.of_body Bd
 have e0 : s₁.heap = h0 := by rw [← hh, Bd.state]; rfl
 have N0 := Fr.nil n0
 refine GoW.mk ?_
 refine GoW.st (fun t k => castTop (ef11_rm11_54 m a1c) k) ?_
 show GoW p e below s (Q11_54 Z a1c a2c ka2c x1c x2c x3c h0 n0) 0 0 (s₁.setTop (mkF m 0 #[.val (.ref a1c)] []))
 refine GoW.sg (mkF m 1 #[.val (.ref a1c)] [(.ref a1c)]) (fun t k => XS.aloadN X0.here hx rfl (hb hby d11_0) rfl rfl k) ?_
 obtain ⟨T531, X531, e531, st531⟩ := getF X0 hx hZ hown (host := "") (Or.inl (ww hw 33 rfl)) Via.refl e0 P0 (g := (mkF m 1 #[.val (.ref a1c)] [(.ref a1c)])) rfl rfl (hb hby d11_1)
 refine GoW.sg (mkF m 4 #[.val (.ref a1c)] [(.ref a2c)]) (fun t k => st531 t k) ?_
 obtain ⟨cl532, Ar532, q532, Sz532, Nn532, Hh532, Gg532⟩ := id P1
 have st532 := X531.arraylength hx (hq_ e531 Ar532.1) (State.isArrayOf_alike hZ.alike Ar532.2.1) (g := (mkF m 4 #[.val (.ref a1c)] [(.ref a2c)])) rfl rfl (hb hby d11_4)
 rw [len_of Sz532 Nn532] at st532
 refine GoW.sg (mkF m 5 #[.val (.ref a1c)] [(.int 3)]) (fun t k => st532 t k) ?_
 refine GoW.sg (mkF m 12 #[.val (.ref a1c)] []) (fun t k => XS.ifYes X531.here hx rfl (pc0 := 5) (pc' := 12) rfl (hb hby d11_5) rfl (by decide) (by decide) (by decide) k) ?_
 refine GoW.sg (mkF m 13 #[.val (.ref a1c)] [(.int 0)]) (fun t k => XS.iconst X531.here hx rfl (hb hby d11_12) k) ?_
 refine GoW.retN X531 hx (t := .boolean) Bd.returns (by simp) (hb hby d11_13) Bd.notSynchronized ?_ (by decide) (by decide)
 rw [e531]
 exact ⟨rfl, N0, rfl⟩
def Q10_55 (Z : State) (a1c : Addr) (a2c : Addr) (a3c : Addr) (ka3c : ClassId) (x1c : Int32) (x2c : Int32) (x3c : Int32) (h0 : Heap) (n0 : Nat) (v : Option Value) (h : Heap) (L : List Loc) : Prop := v = some (.ref a2c) ∧ Fr n0 L ∧ (h = h0)
theorem ef10_rm10_55 (m : MethodId) (a1c : Addr) : entryFrame m #[(.ref a1c)] 1 = (mkF m 0 #[.val (.ref a1c)] []) := by first | (simp [entryFrame, mkF, argsToLocals, Value.category, maxLocals]; done) | rfl
set_option maxRecDepth 65536 in
set_option maxHeartbeats 40000000 in
theorem rm10_55 (l : Launch) (Z : State) (a0 : Array Value) (hw : ∀ d ∈ tables_1, d.before a0 Z = true) (ws : List Jvm.Cond) (a1c : Addr) (a2c : Addr) (a3c : Addr) (ka3c : ClassId) (x1c : Int32) (x2c : Int32) (x3c : Int32) (h0 : Heap) (n0 : Nat) (P0 : Exa Z h0 a2c "java/lang/String") (P1 : Fld Z h0 a1c "com/example/relaystack/relaystack/CommandLine$Option" "given" "Ljava/lang/String;" (.ref a2c)) (P2 : Fld Z h0 a2c "java/lang/String" "value" "[B" (.ref a3c)) (P3 : Arv Z h0 a3c ka3c .byte (3 : Int32) [(.int x1c), (.int x2c), (.int x3c)] (.int (0 : Int32)))      :
    MetFree l Y10 (head1 (Jvm.Cond.code Y10 prog_8_method_2_code 1 (some (.object "java/lang/String")) :: ws) ({ frames := 1, cells := 0, slots := 0, locals := 12 } : Room)) (fun a U => a = #[(.ref a1c)] ∧ Z.Warmed39 U.vm ∧ U.heap = h0) (fun _ _ _ _ _ => True) (fun _ U o U' => ∃ v L, o = .returned v ∧ (Q10_55 Z a1c a2c a3c ka3c x1c x2c x3c h0 n0) v U'.heap L ∧ FrameEnd U o U' L 0 0) := by
 refine MetFree.of_bodySF (plainFor_of_name pn_com_example_relaystack_relaystack_CommandLine_Option) hisR ?_
 intro p e s m args below meth c s₁ Bd hml0 hP hK
 obtain ⟨rfl, hZ, hh⟩ := hP
 have hx := Bd.exec
 have hby := Bd.bytes
 have hml : c.maxLocals = 1 := hml0
 have hown : s.vm.findClass "com/example/relaystack/relaystack/CommandLine$Option" = some m.cls := findClass_of_methodNamed Bd.named
 have hnm := (name_of_methodNamed Bd.named Bd.method).1
 have X0 : Stand p l e ({ frames := 1, cells := 0, slots := 0, locals := 12 } : Room) s m #[(.ref a1c)] below meth c s₁ [] 0 0 := Stand.of_body Bd
 have e0 : s₁.heap = h0 := by rw [← hh, Bd.state]; rfl
 have N0 := Fr.nil n0
 refine GoW.mk ?_
 refine GoW.st (fun t k => castTop (ef10_rm10_55 m a1c) k) ?_
 show GoW p e below s (Q10_55 Z a1c a2c a3c ka3c x1c x2c x3c h0 n0) 0 0 (s₁.setTop (mkF m 0 #[.val (.ref a1c)] []))
 refine GoW.sg (mkF m 1 #[.val (.ref a1c)] [(.ref a1c)]) (fun t k => XS.aloadN X0.here hx rfl (hb hby d10_0) rfl rfl k) ?_
 obtain ⟨T535, X535, e535, st535⟩ := getF X0 hx hZ hown (host := "") (Or.inl (ww hw 49 rfl)) Via.refl e0 P1 (g := (mkF m 1 #[.val (.ref a1c)] [(.ref a1c)])) rfl rfl (hb hby d10_1)
 refine GoW.sg (mkF m 4 #[.val (.ref a1c)] [(.ref a2c)]) (fun t k => st535 t k) ?_
 refine GoW.sg (mkF m 7 #[.val (.ref a1c)] []) (fun t k => XS.ifnullNo X535.here hx rfl (hb hby d10_4) rfl k) ?_
 refine GoW.sg (mkF m 8 #[.val (.ref a1c)] [(.ref a1c)]) (fun t k => XS.aloadN X535.here hx rfl (hb hby d10_7) rfl rfl k) ?_
 obtain ⟨T536, X536, e536, st536⟩ := getF X535 hx hZ hown (host := "") (Or.inl (ww hw 49 rfl)) Via.refl e535 P1 (g := (mkF m 8 #[.val (.ref a1c)] [(.ref a1c)])) rfl rfl (hb hby d10_8)
 refine GoW.sg (mkF m 11 #[.val (.ref a1c)] [(.ref a2c)]) (fun t k => st536 t k) ?_
 obtain ⟨cq539, kq539, q539a, q539b, q539c⟩ := isOf hZ e536 P0
 obtain ⟨_, _, ⟨T539, L539, k539, n539⟩, -, X539, ⟨Lc539, hQ539, l539, y539, z539⟩, st539⟩ := X536.virtualBack hx (y := Y11) (z := Y11) hown (mvT hZ (ww hw 56 rfl)) (mvT hZ (ww hw 57 rfl)) (notFace_of_selects (args := #[]) (mvT hZ (ww hw 59 rfl))) (mvT hZ (ww hw 59 rfl)) (mvT hZ (ww hw 58 rfl)) (by decide) (backOf (W := 0) (rm11_54 l Z a0 hw [] a2c a3c ka3c x1c x2c x3c h0 n0  P2 P3    ) hZ (ww hw 60 rfl) (ww hw 7 rfl) (by decide) (by decide)) q539a q539c (g := (mkF m 11 #[.val (.ref a1c)] [(.ref a2c)])) rfl (by rw [hml]; rfl) (Steps.refl _) (argsL := []) (rest := []) (lenOf pd_2829Z rfl) rfl (by show 2 * 0 + _ ≤ _; exact Nat.le_of_eq rfl) (hb hby d10_11) (fun _ _ => ⟨rfl, e536, (by decide : 0 + 0 ≤ _), (by decide : 0 + 0 ≤ _)⟩)
 dsimp only [Pt.U, Pt.locs, Pt.cells, Pt.slots] at X539 l539 y539 z539 st539 hQ539
 subst l539 y539 z539
 obtain ⟨rfl, N539q, e539⟩ := hQ539
 have N539 := Fr.app N0 N539q
 refine GoW.sg (mkF m 14 #[.val (.ref a1c)] [(.int 0)]) (fun t k => st539.trans k) ?_
 refine GoW.sg (mkF m 34 #[.val (.ref a1c)] []) (fun t k => XS.ifYes X539.here hx rfl (pc0 := 14) (pc' := 34) rfl (hb hby d10_14) rfl (by decide) (by decide) (by decide) k) ?_
 refine GoW.sg (mkF m 35 #[.val (.ref a1c)] [(.ref a1c)]) (fun t k => XS.aloadN X539.here hx rfl (hb hby d10_34) rfl rfl k) ?_
 obtain ⟨T540, X540, e540, st540⟩ := getF X539 hx hZ hown (host := "") (Or.inl (ww hw 49 rfl)) Via.refl e539 P1 (g := (mkF m 35 #[.val (.ref a1c)] [(.ref a1c)])) rfl rfl (hb hby d10_35)
 refine GoW.sg (mkF m 38 #[.val (.ref a1c)] [(.ref a2c)]) (fun t k => st540 t k) ?_
 refine GoW.retA X540 hx Bd.returns rfl rfl rfl (hb hby d10_38) Bd.notSynchronized ?_ (by decide) (by decide)
 rw [e540]
 exact ⟨rfl, N539, rfl⟩
def Q12_56 (Z : State) (a1c : Addr) (a2c : Addr) (ka2c : ClassId) (x1c : Int32) (x2c : Int32) (x3c : Int32) (x4c : Int32) (h0 : Heap) (n0 : Nat) (v : Option Value) (h : Heap) (L : List Loc) : Prop := v = some (.int (3 : Int32)) ∧ Fr n0 L ∧ (h = h0)
theorem ef12_rm12_56 (m : MethodId) (a1c : Addr) : entryFrame m #[(.ref a1c)] 1 = (mkF m 0 #[.val (.ref a1c)] []) := by first | (simp [entryFrame, mkF, argsToLocals, Value.category, maxLocals]; done) | rfl
set_option maxRecDepth 65536 in
set_option maxHeartbeats 40000000 in
theorem rm12_56 (l : Launch) (Z : State) (a0 : Array Value) (hw : ∀ d ∈ tables_1, d.before a0 Z = true) (ws : List Jvm.Cond) (a1c : Addr) (a2c : Addr) (ka2c : ClassId) (x1c : Int32) (x2c : Int32) (x3c : Int32) (x4c : Int32) (h0 : Heap) (n0 : Nat) (P0 : Exa Z h0 a1c "java/lang/String") (P1 : Fld Z h0 a1c "java/lang/String" "coder" "B" (.int (0 : Int32))) (P2 : Fld Z h0 a1c "java/lang/String" "value" "[B" (.ref a2c)) (P3 : Arv Z h0 a2c ka2c .byte (3 : Int32) [(.int x1c), (.int x2c), (.int x3c)] (.int (0 : Int32))) (P4 : Sta Z h0 "java/lang/String" "COMPACT_STRINGS" "Z" (.int x4c))   (u0 : ¬ (x4c = (0 : Int32)))   :
    MetFree l Y12 (head1 (Jvm.Cond.code Y12 jdk_42_method_54_code 1 (some .int) :: ws) ({ frames := 1, cells := 0, slots := 0, locals := 13 } : Room)) (fun a U => a = #[(.ref a1c)] ∧ Z.Warmed39 U.vm ∧ U.heap = h0) (fun _ _ _ _ _ => True) (fun _ U o U' => ∃ v L, o = .returned v ∧ (Q12_56 Z a1c a2c ka2c x1c x2c x3c x4c h0 n0) v U'.heap L ∧ FrameEnd U o U' L 0 0) := by
 refine MetFree.of_bodySF (plainFor_of_name pn_java_lang_String) hisR ?_
 intro p e s m args below meth c s₁ Bd hml0 hP hK
 obtain ⟨rfl, hZ, hh⟩ := hP
 have hx := Bd.exec
 have hby := Bd.bytes
 have hml : c.maxLocals = 1 := hml0
 have hown : s.vm.findClass "java/lang/String" = some m.cls := findClass_of_methodNamed Bd.named
 have hnm := (name_of_methodNamed Bd.named Bd.method).1
 have X0 : Stand p l e ({ frames := 1, cells := 0, slots := 0, locals := 13 } : Room) s m #[(.ref a1c)] below meth c s₁ [] 0 0 := Stand.of_body Bd
 have e0 : s₁.heap = h0 := by rw [← hh, Bd.state]; rfl
 have N0 := Fr.nil n0
 refine GoW.mk ?_
 refine GoW.st (fun t k => castTop (ef12_rm12_56 m a1c) k) ?_
 show GoW p e below s (Q12_56 Z a1c a2c ka2c x1c x2c x3c x4c h0 n0) 0 0 (s₁.setTop (mkF m 0 #[.val (.ref a1c)] []))
 refine GoW.sg (mkF m 1 #[.val (.ref a1c)] [(.ref a1c)]) (fun t k => XS.aloadN X0.here hx rfl (hb hby d12_0) rfl rfl k) ?_
 obtain ⟨T547, X547, e547, st547⟩ := getF X0 hx hZ hown (host := "") (Or.inl (ww hw 33 rfl)) Via.refl e0 P2 (g := (mkF m 1 #[.val (.ref a1c)] [(.ref a1c)])) rfl rfl (hb hby d12_1)
 refine GoW.sg (mkF m 4 #[.val (.ref a1c)] [(.ref a2c)]) (fun t k => st547 t k) ?_
 obtain ⟨cl548, Ar548, q548, Sz548, Nn548, Hh548, Gg548⟩ := id P3
 have st548 := X547.arraylength hx (hq_ e547 Ar548.1) (State.isArrayOf_alike hZ.alike Ar548.2.1) (g := (mkF m 4 #[.val (.ref a1c)] [(.ref a2c)])) rfl rfl (hb hby d12_4)
 rw [len_of Sz548 Nn548] at st548
 refine GoW.sg (mkF m 5 #[.val (.ref a1c)] [(.int 3)]) (fun t k => st548 t k) ?_
 refine GoW.sg (mkF m 6 #[.val (.ref a1c)] [(.ref a1c), (.int 3)]) (fun t k => XS.aloadN X547.here hx rfl (hb hby d12_5) rfl rfl k) ?_
 obtain ⟨cq551, kq551, q551a, q551b, q551c⟩ := isOf hZ e547 P0
 obtain ⟨_, _, ⟨T551, L551, k551, n551⟩, -, X551, ⟨Lc551, hQ551, l551, y551, z551⟩, st551⟩ := X547.virtualBack hx (y := Y13) (z := Y13) hown (mvT hZ (ww hw 66 rfl)) (mvT hZ (ww hw 67 rfl)) (notFace_of_selects (args := #[]) (mvT hZ (ww hw 69 rfl))) (mvT hZ (ww hw 69 rfl)) (mvT hZ (ww hw 68 rfl)) (by decide) (backOf (W := 1) (rm13_11 l Z a0 hw [] a1c x4c h0 n0  P1 P4   u0 ) hZ (ww hw 70 rfl) (ww hw 7 rfl) (by decide) (by decide)) q551a q551c (g := (mkF m 6 #[.val (.ref a1c)] [(.ref a1c), (.int 3)])) rfl (by rw [hml]; rfl) (Steps.refl _) (argsL := []) (rest := [(.int (3 : Int32))]) (lenOf pd_2829B rfl) rfl (by show 2 * 0 + _ ≤ _; exact Nat.le_of_eq rfl) (hb hby d12_6) (fun _ _ => ⟨rfl, e547, (by decide : 0 + 0 ≤ _), (by decide : 0 + 0 ≤ _)⟩)
 dsimp only [Pt.U, Pt.locs, Pt.cells, Pt.slots] at X551 l551 y551 z551 st551 hQ551
 subst l551 y551 z551
 obtain ⟨rfl, N551q, e551⟩ := hQ551
 have N551 := Fr.app N0 N551q
 refine GoW.sg (mkF m 9 #[.val (.ref a1c)] [(.int 0), (.int 3)]) (fun t k => st551.trans k) ?_
 refine GoW.st (fun t k => XS.ishr X551.here hx rfl (hb hby d12_9) rfl k) ?_
 rw [show ((3 : Int32) >>> ((0 : Int32) &&& 31)) = (3 : Int32) from by decide]
 show GoW p e below s (Q12_56 Z a1c a2c ka2c x1c x2c x3c x4c h0 n0) 0 0 (T551.setTop (mkF m 10 #[.val (.ref a1c)] [(.int 3)]))
 refine GoW.retI X551 hx Bd.returns (hb hby d12_10) Bd.notSynchronized ?_ (by decide) (by decide)
 rw [e551]
 exact ⟨rfl, N551, rfl⟩
def Q18_57 (Z : State)  (h0 : Heap) (n0 : Nat) (v : Option Value) (h : Heap) (L : List Loc) : Prop := v = some (.int (0 : Int32)) ∧ Fr n0 L ∧ (h = h0)
theorem ef18_rm18_57 (m : MethodId)  : entryFrame m #[(.int (0 : Int32)), (.int (3 : Int32)), .null] 3 = (mkF m 0 #[.val (.int 0), .val (.int 3), .val .null] []) := by first | (simp [entryFrame, mkF, argsToLocals, Value.category, maxLocals]; done) | rfl
set_option maxRecDepth 65536 in
set_option maxHeartbeats 40000000 in
theorem rm18_57 (l : Launch) (Z : State) (a0 : Array Value) (hw : ∀ d ∈ tables_1, d.before a0 Z = true) (ws : List Jvm.Cond)   (h0 : Heap) (n0 : Nat)       :
    MetFree l Y18 (head1 (Jvm.Cond.code Y18 jdk_41_method_11_code 3 (some .int) :: ws) ({ frames := 0, cells := 0, slots := 0, locals := 0 } : Room)) (fun a U => a = #[(.int (0 : Int32)), (.int (3 : Int32)), .null] ∧ Z.Warmed39 U.vm ∧ U.heap = h0) (fun _ _ _ _ _ => True) (fun _ U o U' => ∃ v L, o = .returned v ∧ (Q18_57 Z  h0 n0) v U'.heap L ∧ FrameEnd U o U' L 0 0) := by
 refine MetFree.of_bodySF (plainFor_of_name pn_jdk_internal_util_Preconditions) hisR ?_
 intro p e s m args below meth c s₁ Bd hml0 hP hK
 obtain ⟨rfl, hZ, hh⟩ := hP
 have hx := Bd.exec
 have hby := Bd.bytes
 have hml : c.maxLocals = 3 := hml0
 have hown : s.vm.findClass "jdk/internal/util/Preconditions" = some m.cls := findClass_of_methodNamed Bd.named
 have hnm := (name_of_methodNamed Bd.named Bd.method).1
 have X0 : Stand p l e ({ frames := 0, cells := 0, slots := 0, locals := 0 } : Room) s m #[(.int (0 : Int32)), (.int (3 : Int32)), .null] below meth c s₁ [] 0 0 := Stand.of_body Bd
 have e0 : s₁.heap = h0 := by rw [← hh, Bd.state]; rfl
 have N0 := Fr.nil n0
 refine GoW.mk ?_
 refine GoW.st (fun t k => castTop (ef18_rm18_57 m ) k) ?_
 show GoW p e below s (Q18_57 Z  h0 n0) 0 0 (s₁.setTop (mkF m 0 (Sh20 0 3) []))
 refine GoW.sg (mkF m 1 (Sh20 0 3) [(.int 0)]) (fun t k => XS.iloadN X0.here hx rfl (hb hby d18_0) rfl k) ?_
 refine GoW.sg (mkF m 4 (Sh20 0 3) []) (fun t k => XS.ifNo X0.here hx rfl (hb hby d18_1) rfl (by decide) k) ?_
 refine GoW.sg (mkF m 5 (Sh20 0 3) [(.int 0)]) (fun t k => XS.iloadN X0.here hx rfl (hb hby d18_4) rfl k) ?_
 refine GoW.sg (mkF m 6 (Sh20 0 3) [(.int 3), (.int 0)]) (fun t k => XS.iloadN X0.here hx rfl (hb hby d18_5) rfl k) ?_
 refine GoW.sg (mkF m 16 (Sh20 0 3) []) (fun t k => XS.icmpYes X0.here hx rfl (pc0 := 6) (pc' := 16) rfl (hb hby d18_6) rfl (by decide) (by decide) (by decide) k) ?_
 refine GoW.sg (mkF m 17 (Sh20 0 3) [(.int 0)]) (fun t k => XS.iloadN X0.here hx rfl (hb hby d18_16) rfl k) ?_
 refine GoW.retI X0 hx Bd.returns (hb hby d18_17) Bd.notSynchronized ?_ (by decide) (by decide)
 rw [e0]
 exact ⟨rfl, N0, rfl⟩
def Q17_58 (Z : State)  (h0 : Heap) (n0 : Nat) (v : Option Value) (h : Heap) (L : List Loc) : Prop := v = none ∧ Fr n0 L ∧ (h = h0)
theorem ef17_rm17_58 (m : MethodId)  : entryFrame m #[(.int (0 : Int32)), (.int (3 : Int32))] 2 = (mkF m 0 #[.val (.int 0), .val (.int 3)] []) := by first | (simp [entryFrame, mkF, argsToLocals, Value.category, maxLocals]; done) | rfl
set_option maxRecDepth 65536 in
set_option maxHeartbeats 40000000 in
theorem rm17_58 (l : Launch) (Z : State) (a0 : Array Value) (hw : ∀ d ∈ tables_1, d.before a0 Z = true) (ws : List Jvm.Cond)   (h0 : Heap) (n0 : Nat) (P0 : Sta Z h0 "jdk/internal/util/Preconditions" "SIOOBE_FORMATTER" "Ljava/util/function/BiFunction;" .null)      :
    MetFree l Y17 (head1 (Jvm.Cond.code Y17 jdk_42_method_155_code 2 none :: ws) ({ frames := 1, cells := 0, slots := 0, locals := 14 } : Room)) (fun a U => a = #[(.int (0 : Int32)), (.int (3 : Int32))] ∧ Z.Warmed39 U.vm ∧ U.heap = h0) (fun _ _ _ _ _ => True) (fun _ U o U' => ∃ v L, o = .returned v ∧ (Q17_58 Z  h0 n0) v U'.heap L ∧ FrameEnd U o U' L 0 0) := by
 refine MetFree.of_bodySF (plainFor_of_name pn_java_lang_String) hisR ?_
 intro p e s m args below meth c s₁ Bd hml0 hP hK
 obtain ⟨rfl, hZ, hh⟩ := hP
 have hx := Bd.exec
 have hby := Bd.bytes
 have hml : c.maxLocals = 2 := hml0
 have hown : s.vm.findClass "java/lang/String" = some m.cls := findClass_of_methodNamed Bd.named
 have hnm := (name_of_methodNamed Bd.named Bd.method).1
 have X0 : Stand p l e ({ frames := 1, cells := 0, slots := 0, locals := 14 } : Room) s m #[(.int (0 : Int32)), (.int (3 : Int32))] below meth c s₁ [] 0 0 := Stand.of_body Bd
 have e0 : s₁.heap = h0 := by rw [← hh, Bd.state]; rfl
 have N0 := Fr.nil n0
 refine GoW.mk ?_
 refine GoW.st (fun t k => castTop (ef17_rm17_58 m ) k) ?_
 show GoW p e below s (Q17_58 Z  h0 n0) 0 0 (s₁.setTop (mkF m 0 #[.val (.int 0), .val (.int 3)] []))
 refine GoW.sg (mkF m 1 #[.val (.int 0), .val (.int 3)] [(.int 0)]) (fun t k => XS.iloadN X0.here hx rfl (hb hby d17_0) rfl k) ?_
 refine GoW.sg (mkF m 2 #[.val (.int 0), .val (.int 3)] [(.int 3), (.int 0)]) (fun t k => XS.iloadN X0.here hx rfl (hb hby d17_1) rfl k) ?_
 obtain ⟨T560, X560, e560, st560⟩ := getS (host := "") X0 hx hZ hown (ww hw 88 rfl) Via.refl e0 P0 (g := (mkF m 2 #[.val (.int 0), .val (.int 3)] [(.int 3), (.int 0)])) rfl (hb hby d17_2)
 refine GoW.sg (mkF m 5 #[.val (.int 0), .val (.int 3)] [.null, (.int 3), (.int 0)]) (fun t k => st560 t k) ?_
 obtain ⟨_, T561, L561, X561, hQ561, st561⟩ := own_callS X560 hx hZ hown (y := Y18) (ww hw 90 rfl) (ww hw 91 rfl) (ww hw 89 rfl) (ww hw 92 rfl) (by decide) 0 (rm18_57 l Z a0 hw []   h0 n0      ) (by decide) (by decide) e560 (by decide) (by decide) (g := (mkF m 5 #[.val (.int 0), .val (.int 3)] [.null, (.int 3), (.int 0)])) rfl (by rw [hml]; rfl) (argsL := [(.int (0 : Int32)), (.int (3 : Int32)), .null]) (rest := []) (lenOf pd_28IILjava2futil2ffunction2fBiFunction3b29I rfl) rfl (by show 2 * 0 + _ ≤ _; exact Nat.le_of_eq rfl) (hb hby d17_5)
 obtain ⟨rfl, N561q, e561⟩ := hQ561
 have N561 := Fr.app N0 N561q
 refine GoW.sg (mkF m 8 #[.val (.int 0), .val (.int 3)] [(.int 0)]) (fun t k => st561 t k) ?_
 refine GoW.sg (mkF m 9 #[.val (.int 0), .val (.int 3)] []) (fun t k => XS.pop X561.here hx rfl (hb hby d17_8) rfl rfl k) ?_
 refine GoW.retV X561 hx Bd.returns (hb hby d17_9) Bd.notSynchronized ?_ (by decide) (by decide)
 rw [e561]
 exact ⟨rfl, N561, rfl⟩
def Q16_59 (Z : State) (a1c : Addr) (ka1c : ClassId) (x1c : Int32) (x2c : Int32) (x3c : Int32) (h0 : Heap) (n0 : Nat) (v : Option Value) (h : Heap) (L : List Loc) : Prop := v = some (.int (nar .char (x1c &&& (255 : Int32)).toUInt32.toUInt16.toUInt32.toInt32)) ∧ Fr n0 L ∧ (h = h0)
theorem ef16_rm16_59 (m : MethodId) (a1c : Addr) : entryFrame m #[(.ref a1c), (.int (0 : Int32))] 2 = (mkF m 0 #[.val (.ref a1c), .val (.int 0)] []) := by first | (simp [entryFrame, mkF, argsToLocals, Value.category, maxLocals]; done) | rfl
set_option maxRecDepth 65536 in
set_option maxHeartbeats 40000000 in
theorem rm16_59 (l : Launch) (Z : State) (a0 : Array Value) (hw : ∀ d ∈ tables_1, d.before a0 Z = true) (ws : List Jvm.Cond) (a1c : Addr) (ka1c : ClassId) (x1c : Int32) (x2c : Int32) (x3c : Int32) (h0 : Heap) (n0 : Nat) (P0 : Arv Z h0 a1c ka1c .byte (3 : Int32) [(.int x1c), (.int x2c), (.int x3c)] (.int (0 : Int32))) (P1 : Sta Z h0 "jdk/internal/util/Preconditions" "SIOOBE_FORMATTER" "Ljava/util/function/BiFunction;" .null)      :
    MetFree l Y16 (head1 (Jvm.Cond.code Y16 jdk_43_method_2_code 2 (some .char) :: ws) ({ frames := 2, cells := 0, slots := 0, locals := 27 } : Room)) (fun a U => a = #[(.ref a1c), (.int (0 : Int32))] ∧ Z.Warmed39 U.vm ∧ U.heap = h0) (fun _ _ _ _ _ => True) (fun _ U o U' => ∃ v L, o = .returned v ∧ (Q16_59 Z a1c ka1c x1c x2c x3c h0 n0) v U'.heap L ∧ FrameEnd U o U' L 0 0) := by
 refine MetFree.of_bodySF (plainFor_of_name pn_java_lang_StringLatin1) hisR ?_
 intro p e s m args below meth c s₁ Bd hml0 hP hK
 obtain ⟨rfl, hZ, hh⟩ := hP
 have hx := Bd.exec
 have hby := Bd.bytes
 have hml : c.maxLocals = 2 := hml0
 have hown : s.vm.findClass "java/lang/StringLatin1" = some m.cls := findClass_of_methodNamed Bd.named
 have hnm := (name_of_methodNamed Bd.named Bd.method).1
 have X0 : Stand p l e ({ frames := 2, cells := 0, slots := 0, locals := 27 } : Room) s m #[(.ref a1c), (.int (0 : Int32))] below meth c s₁ [] 0 0 := Stand.of_body Bd
 have e0 : s₁.heap = h0 := by rw [← hh, Bd.state]; rfl
 have N0 := Fr.nil n0
 refine GoW.mk ?_
 refine GoW.st (fun t k => castTop (ef16_rm16_59 m a1c) k) ?_
 show GoW p e below s (Q16_59 Z a1c ka1c x1c x2c x3c h0 n0) 0 0 (s₁.setTop (mkF m 0 #[.val (.ref a1c), .val (.int 0)] []))
 refine GoW.sg (mkF m 1 #[.val (.ref a1c), .val (.int 0)] [(.int 0)]) (fun t k => XS.iloadN X0.here hx rfl (hb hby d16_0) rfl k) ?_
 refine GoW.sg (mkF m 2 #[.val (.ref a1c), .val (.int 0)] [(.ref a1c), (.int 0)]) (fun t k => XS.aloadN X0.here hx rfl (hb hby d16_1) rfl rfl k) ?_
 obtain ⟨cl564, Ar564, q564, Sz564, Nn564, Hh564, Gg564⟩ := id P0
 have st564 := X0.arraylength hx (hq_ e0 Ar564.1) (State.isArrayOf_alike hZ.alike Ar564.2.1) (g := (mkF m 2 #[.val (.ref a1c), .val (.int 0)] [(.ref a1c), (.int 0)])) rfl rfl (hb hby d16_2)
 rw [len_of Sz564 Nn564] at st564
 refine GoW.sg (mkF m 3 #[.val (.ref a1c), .val (.int 0)] [(.int 3), (.int 0)]) (fun t k => st564 t k) ?_
 obtain ⟨_, T567, L567, X567, hQ567, st567⟩ := own_callS X0 hx hZ hown (y := Y17) (ww hw 85 rfl) (ww hw 86 rfl) (ww hw 7 rfl) (ww hw 87 rfl) (by decide) 0 (rm17_58 l Z a0 hw []   h0 n0  P1    ) (by decide) (by decide) e0 (by decide) (by decide) (g := (mkF m 3 #[.val (.ref a1c), .val (.int 0)] [(.int 3), (.int 0)])) rfl (by rw [hml]; rfl) (argsL := [(.int (0 : Int32)), (.int (3 : Int32))]) (rest := []) (lenOf pd_28II29V rfl) rfl (by show 2 * 0 + _ ≤ _; exact Nat.le_of_eq rfl) (hb hby d16_3)
 obtain ⟨rfl, N567q, e567⟩ := hQ567
 have N567 := Fr.app N0 N567q
 refine GoW.sg (mkF m 6 #[.val (.ref a1c), .val (.int 0)] []) (fun t k => st567 t k) ?_
 refine GoW.sg (mkF m 7 #[.val (.ref a1c), .val (.int 0)] [(.ref a1c)]) (fun t k => XS.aloadN X567.here hx rfl (hb hby d16_6) rfl rfl k) ?_
 refine GoW.sg (mkF m 8 #[.val (.ref a1c), .val (.int 0)] [(.int 0), (.ref a1c)]) (fun t k => XS.iloadN X567.here hx rfl (hb hby d16_7) rfl k) ?_
 obtain ⟨cl568, Ar568, q568, Sz568, Nn568, Hh568, Gg568⟩ := id P0
 have hin568 : ¬ ((0 : Int32) < 0 ∨ cl568.slots.size ≤ ((0 : Int32)).toNatClampNeg) := inb_of Sz568 ⟨by decide, by decide⟩
 refine GoW.sg (mkF m 9 #[.val (.ref a1c), .val (.int 0)] [(.int x1c)]) (fun t k => X567.baloadBytes hx (j := (0 : Int32)) (v := (.int x1c)) (hq_ e567 Ar568.1) (State.isArrayOf_alike hZ.alike Ar568.2.1) Ar568.2.2 hin568 (Hh568.at hin568 rfl) (g := (mkF m 8 #[.val (.ref a1c), .val (.int 0)] [(.int 0), (.ref a1c)])) rfl rfl (hb hby d16_8) t k) ?_
 refine GoW.sg (mkF m 12 #[.val (.ref a1c), .val (.int 0)] [(.int 255), (.int x1c)]) (fun t k => XS.sipush X567.here hx rfl (hb hby d16_9) k) ?_
 refine GoW.sg (mkF m 13 #[.val (.ref a1c), .val (.int 0)] [(.int (x1c &&& (255 : Int32)))]) (fun t k => XS.iand X567.here hx rfl (hb hby d16_12) rfl k) ?_
 refine GoW.sg (mkF m 14 #[.val (.ref a1c), .val (.int 0)] [(.int (x1c &&& (255 : Int32)).toUInt32.toUInt16.toUInt32.toInt32)]) (fun t k => XS.i2c X567.here hx rfl (hb hby d16_13) rfl k) ?_
 refine GoW.retN X567 hx (t := .char) Bd.returns (by simp) (hb hby d16_14) Bd.notSynchronized ?_ (by decide) (by decide)
 rw [e567]
 exact ⟨rfl, N567, rfl⟩
def Q14_60 (Z : State) (a1c : Addr) (a2c : Addr) (ka2c : ClassId) (x1c : Int32) (x2c : Int32) (x3c : Int32) (x4c : Int32) (h0 : Heap) (n0 : Nat) (v : Option Value) (h : Heap) (L : List Loc) : Prop := v = some (.int (nar .char (nar .char (x1c &&& (255 : Int32)).toUInt32.toUInt16.toUInt32.toInt32))) ∧ Fr n0 L ∧ (h = h0)
theorem ef14_rm14_60 (m : MethodId) (a1c : Addr) : entryFrame m #[(.ref a1c), (.int (0 : Int32))] 2 = (mkF m 0 #[.val (.ref a1c), .val (.int 0)] []) := by first | (simp [entryFrame, mkF, argsToLocals, Value.category, maxLocals]; done) | rfl
set_option maxRecDepth 65536 in
set_option maxHeartbeats 40000000 in
theorem rm14_60 (l : Launch) (Z : State) (a0 : Array Value) (hw : ∀ d ∈ tables_1, d.before a0 Z = true) (ws : List Jvm.Cond) (a1c : Addr) (a2c : Addr) (ka2c : ClassId) (x1c : Int32) (x2c : Int32) (x3c : Int32) (x4c : Int32) (h0 : Heap) (n0 : Nat) (P0 : Exa Z h0 a1c "java/lang/String") (P1 : Fld Z h0 a1c "java/lang/String" "coder" "B" (.int (0 : Int32))) (P2 : Fld Z h0 a1c "java/lang/String" "value" "[B" (.ref a2c)) (P3 : Arv Z h0 a2c ka2c .byte (3 : Int32) [(.int x1c), (.int x2c), (.int x3c)] (.int (0 : Int32))) (P4 : Sta Z h0 "java/lang/String" "COMPACT_STRINGS" "Z" (.int x4c)) (P5 : Sta Z h0 "jdk/internal/util/Preconditions" "SIOOBE_FORMATTER" "Ljava/util/function/BiFunction;" .null)   (u0 : ¬ (x4c = (0 : Int32)))   :
    MetFree l Y14 (head1 (Jvm.Cond.code Y14 jdk_42_method_56_code 2 (some .char) :: ws) ({ frames := 3, cells := 0, slots := 0, locals := 40 } : Room)) (fun a U => a = #[(.ref a1c), (.int (0 : Int32))] ∧ Z.Warmed39 U.vm ∧ U.heap = h0) (fun _ _ _ _ _ => True) (fun _ U o U' => ∃ v L, o = .returned v ∧ (Q14_60 Z a1c a2c ka2c x1c x2c x3c x4c h0 n0) v U'.heap L ∧ FrameEnd U o U' L 0 0) := by
 refine MetFree.of_bodySF (plainFor_of_name pn_java_lang_String) hisR ?_
 intro p e s m args below meth c s₁ Bd hml0 hP hK
 obtain ⟨rfl, hZ, hh⟩ := hP
 have hx := Bd.exec
 have hby := Bd.bytes
 have hml : c.maxLocals = 2 := hml0
 have hown : s.vm.findClass "java/lang/String" = some m.cls := findClass_of_methodNamed Bd.named
 have hnm := (name_of_methodNamed Bd.named Bd.method).1
 have X0 : Stand p l e ({ frames := 3, cells := 0, slots := 0, locals := 40 } : Room) s m #[(.ref a1c), (.int (0 : Int32))] below meth c s₁ [] 0 0 := Stand.of_body Bd
 have e0 : s₁.heap = h0 := by rw [← hh, Bd.state]; rfl
 have N0 := Fr.nil n0
 refine GoW.mk ?_
 refine GoW.st (fun t k => castTop (ef14_rm14_60 m a1c) k) ?_
 show GoW p e below s (Q14_60 Z a1c a2c ka2c x1c x2c x3c x4c h0 n0) 0 0 (s₁.setTop (mkF m 0 #[.val (.ref a1c), .val (.int 0)] []))
 refine GoW.sg (mkF m 1 #[.val (.ref a1c), .val (.int 0)] [(.ref a1c)]) (fun t k => XS.aloadN X0.here hx rfl (hb hby d14_0) rfl rfl k) ?_
 obtain ⟨cq570, kq570, q570a, q570b, q570c⟩ := isOf hZ e0 P0
 obtain ⟨_, _, ⟨T570, L570, k570, n570⟩, -, X570, ⟨Lc570, hQ570, l570, y570, z570⟩, st570⟩ := X0.virtualBack hx (y := Y15) (z := Y15) hown (mvT hZ (ww hw 76 rfl)) (mvT hZ (ww hw 77 rfl)) (notFace_of_selects (args := #[]) (mvT hZ (ww hw 79 rfl))) (mvT hZ (ww hw 79 rfl)) (mvT hZ (ww hw 78 rfl)) (by decide) (backOf (W := 0) (rm15_13 l Z a0 hw [] a1c x4c h0 n0  P1 P4   u0 ) hZ (ww hw 80 rfl) (ww hw 7 rfl) (by decide) (by decide)) q570a q570c (g := (mkF m 1 #[.val (.ref a1c), .val (.int 0)] [(.ref a1c)])) rfl (by rw [hml]; rfl) (Steps.refl _) (argsL := []) (rest := []) (lenOf pd_2829Z rfl) rfl (by show 2 * 0 + _ ≤ _; exact Nat.le_of_eq rfl) (hb hby d14_1) (fun _ _ => ⟨rfl, e0, (by decide : 0 + 0 ≤ _), (by decide : 0 + 0 ≤ _)⟩)
 dsimp only [Pt.U, Pt.locs, Pt.cells, Pt.slots] at X570 l570 y570 z570 st570 hQ570
 subst l570 y570 z570
 obtain ⟨rfl, N570q, e570⟩ := hQ570
 have N570 := Fr.app N0 N570q
 refine GoW.sg (mkF m 4 #[.val (.ref a1c), .val (.int 0)] [(.int 1)]) (fun t k => st570.trans k) ?_
 refine GoW.sg (mkF m 7 #[.val (.ref a1c), .val (.int 0)] []) (fun t k => XS.ifNo X570.here hx rfl (hb hby d14_4) rfl (by decide) k) ?_
 refine GoW.sg (mkF m 8 #[.val (.ref a1c), .val (.int 0)] [(.ref a1c)]) (fun t k => XS.aloadN X570.here hx rfl (hb hby d14_7) rfl rfl k) ?_
 obtain ⟨T571, X571, e571, st571⟩ := getF X570 hx hZ hown (host := "") (Or.inl (ww hw 33 rfl)) Via.refl e570 P2 (g := (mkF m 8 #[.val (.ref a1c), .val (.int 0)] [(.ref a1c)])) rfl rfl (hb hby d14_8)
 refine GoW.sg (mkF m 11 #[.val (.ref a1c), .val (.int 0)] [(.ref a2c)]) (fun t k => st571 t k) ?_
 refine GoW.sg (mkF m 12 #[.val (.ref a1c), .val (.int 0)] [(.int 0), (.ref a2c)]) (fun t k => XS.iloadN X571.here hx rfl (hb hby d14_11) rfl k) ?_
 obtain ⟨_, T572, L572, X572, hQ572, st572⟩ := own_callS X571 hx hZ hown (y := Y16) (ww hw 81 rfl) (ww hw 82 rfl) (ww hw 83 rfl) (ww hw 84 rfl) (by decide) 0 (rm16_59 l Z a0 hw [] a2c ka2c x1c x2c x3c h0 n0  P3 P5    ) (by decide) (by decide) e571 (by decide) (by decide) (g := (mkF m 12 #[.val (.ref a1c), .val (.int 0)] [(.int 0), (.ref a2c)])) rfl (by rw [hml]; rfl) (argsL := [(.ref a2c), (.int (0 : Int32))]) (rest := []) (lenOf pd_285bBI29C rfl) rfl (by show 2 * 0 + _ ≤ _; exact Nat.le_of_eq rfl) (hb hby d14_12)
 obtain ⟨rfl, N572q, e572⟩ := hQ572
 have N572 := Fr.app N570 N572q
 refine GoW.sg (mkF m 15 #[.val (.ref a1c), .val (.int 0)] [(.int (nar .char (x1c &&& (255 : Int32)).toUInt32.toUInt16.toUInt32.toInt32))]) (fun t k => st572 t k) ?_
 refine GoW.retN X572 hx (t := .char) Bd.returns (by simp) (hb hby d14_15) Bd.notSynchronized ?_ (by decide) (by decide)
 rw [e572]
 exact ⟨rfl, N572, rfl⟩
def Q18_61 (Z : State)  (h0 : Heap) (n0 : Nat) (v : Option Value) (h : Heap) (L : List Loc) : Prop := v = some (.int (1 : Int32)) ∧ Fr n0 L ∧ (h = h0)
theorem ef18_rm18_61 (m : MethodId)  : entryFrame m #[(.int (1 : Int32)), (.int (3 : Int32)), .null] 3 = (mkF m 0 #[.val (.int 1), .val (.int 3), .val .null] []) := by first | (simp [entryFrame, mkF, argsToLocals, Value.category, maxLocals]; done) | rfl
set_option maxRecDepth 65536 in
set_option maxHeartbeats 40000000 in
theorem rm18_61 (l : Launch) (Z : State) (a0 : Array Value) (hw : ∀ d ∈ tables_1, d.before a0 Z = true) (ws : List Jvm.Cond)   (h0 : Heap) (n0 : Nat)       :
    MetFree l Y18 (head1 (Jvm.Cond.code Y18 jdk_41_method_11_code 3 (some .int) :: ws) ({ frames := 0, cells := 0, slots := 0, locals := 0 } : Room)) (fun a U => a = #[(.int (1 : Int32)), (.int (3 : Int32)), .null] ∧ Z.Warmed39 U.vm ∧ U.heap = h0) (fun _ _ _ _ _ => True) (fun _ U o U' => ∃ v L, o = .returned v ∧ (Q18_61 Z  h0 n0) v U'.heap L ∧ FrameEnd U o U' L 0 0) := by
 refine MetFree.of_bodySF (plainFor_of_name pn_jdk_internal_util_Preconditions) hisR ?_
 intro p e s m args below meth c s₁ Bd hml0 hP hK
 obtain ⟨rfl, hZ, hh⟩ := hP
 have hx := Bd.exec
 have hby := Bd.bytes
 have hml : c.maxLocals = 3 := hml0
 have hown : s.vm.findClass "jdk/internal/util/Preconditions" = some m.cls := findClass_of_methodNamed Bd.named
 have hnm := (name_of_methodNamed Bd.named Bd.method).1
 have X0 : Stand p l e ({ frames := 0, cells := 0, slots := 0, locals := 0 } : Room) s m #[(.int (1 : Int32)), (.int (3 : Int32)), .null] below meth c s₁ [] 0 0 := Stand.of_body Bd
 have e0 : s₁.heap = h0 := by rw [← hh, Bd.state]; rfl
 have N0 := Fr.nil n0
 refine GoW.mk ?_
 refine GoW.st (fun t k => castTop (ef18_rm18_61 m ) k) ?_
 show GoW p e below s (Q18_61 Z  h0 n0) 0 0 (s₁.setTop (mkF m 0 (Sh20 1 3) []))
 refine GoW.sg (mkF m 1 (Sh20 1 3) [(.int 1)]) (fun t k => XS.iloadN X0.here hx rfl (hb hby d18_0) rfl k) ?_
 refine GoW.sg (mkF m 4 (Sh20 1 3) []) (fun t k => XS.ifNo X0.here hx rfl (hb hby d18_1) rfl (by decide) k) ?_
 refine GoW.sg (mkF m 5 (Sh20 1 3) [(.int 1)]) (fun t k => XS.iloadN X0.here hx rfl (hb hby d18_4) rfl k) ?_
 refine GoW.sg (mkF m 6 (Sh20 1 3) [(.int 3), (.int 1)]) (fun t k => XS.iloadN X0.here hx rfl (hb hby d18_5) rfl k) ?_
 refine GoW.sg (mkF m 16 (Sh20 1 3) []) (fun t k => XS.icmpYes X0.here hx rfl (pc0 := 6) (pc' := 16) rfl (hb hby d18_6) rfl (by decide) (by decide) (by decide) k) ?_
 refine GoW.sg (mkF m 17 (Sh20 1 3) [(.int 1)]) (fun t k => XS.iloadN X0.here hx rfl (hb hby d18_16) rfl k) ?_
 refine GoW.retI X0 hx Bd.returns (hb hby d18_17) Bd.notSynchronized ?_ (by decide) (by decide)
 rw [e0]
 exact ⟨rfl, N0, rfl⟩
def Q17_62 (Z : State)  (h0 : Heap) (n0 : Nat) (v : Option Value) (h : Heap) (L : List Loc) : Prop := v = none ∧ Fr n0 L ∧ (h = h0)
theorem ef17_rm17_62 (m : MethodId)  : entryFrame m #[(.int (1 : Int32)), (.int (3 : Int32))] 2 = (mkF m 0 #[.val (.int 1), .val (.int 3)] []) := by first | (simp [entryFrame, mkF, argsToLocals, Value.category, maxLocals]; done) | rfl
set_option maxRecDepth 65536 in
set_option maxHeartbeats 40000000 in
theorem rm17_62 (l : Launch) (Z : State) (a0 : Array Value) (hw : ∀ d ∈ tables_1, d.before a0 Z = true) (ws : List Jvm.Cond)   (h0 : Heap) (n0 : Nat) (P0 : Sta Z h0 "jdk/internal/util/Preconditions" "SIOOBE_FORMATTER" "Ljava/util/function/BiFunction;" .null)      :
    MetFree l Y17 (head1 (Jvm.Cond.code Y17 jdk_42_method_155_code 2 none :: ws) ({ frames := 1, cells := 0, slots := 0, locals := 14 } : Room)) (fun a U => a = #[(.int (1 : Int32)), (.int (3 : Int32))] ∧ Z.Warmed39 U.vm ∧ U.heap = h0) (fun _ _ _ _ _ => True) (fun _ U o U' => ∃ v L, o = .returned v ∧ (Q17_62 Z  h0 n0) v U'.heap L ∧ FrameEnd U o U' L 0 0) := by
 refine MetFree.of_bodySF (plainFor_of_name pn_java_lang_String) hisR ?_
 intro p e s m args below meth c s₁ Bd hml0 hP hK
 obtain ⟨rfl, hZ, hh⟩ := hP
 have hx := Bd.exec
 have hby := Bd.bytes
 have hml : c.maxLocals = 2 := hml0
 have hown : s.vm.findClass "java/lang/String" = some m.cls := findClass_of_methodNamed Bd.named
 have hnm := (name_of_methodNamed Bd.named Bd.method).1
 have X0 : Stand p l e ({ frames := 1, cells := 0, slots := 0, locals := 14 } : Room) s m #[(.int (1 : Int32)), (.int (3 : Int32))] below meth c s₁ [] 0 0 := Stand.of_body Bd
 have e0 : s₁.heap = h0 := by rw [← hh, Bd.state]; rfl
 have N0 := Fr.nil n0
 refine GoW.mk ?_
 refine GoW.st (fun t k => castTop (ef17_rm17_62 m ) k) ?_
 show GoW p e below s (Q17_62 Z  h0 n0) 0 0 (s₁.setTop (mkF m 0 #[.val (.int 1), .val (.int 3)] []))
 refine GoW.sg (mkF m 1 #[.val (.int 1), .val (.int 3)] [(.int 1)]) (fun t k => XS.iloadN X0.here hx rfl (hb hby d17_0) rfl k) ?_
 refine GoW.sg (mkF m 2 #[.val (.int 1), .val (.int 3)] [(.int 3), (.int 1)]) (fun t k => XS.iloadN X0.here hx rfl (hb hby d17_1) rfl k) ?_
 obtain ⟨T579, X579, e579, st579⟩ := getS (host := "") X0 hx hZ hown (ww hw 88 rfl) Via.refl e0 P0 (g := (mkF m 2 #[.val (.int 1), .val (.int 3)] [(.int 3), (.int 1)])) rfl (hb hby d17_2)
 refine GoW.sg (mkF m 5 #[.val (.int 1), .val (.int 3)] [.null, (.int 3), (.int 1)]) (fun t k => st579 t k) ?_
 obtain ⟨_, T580, L580, X580, hQ580, st580⟩ := own_callS X579 hx hZ hown (y := Y18) (ww hw 90 rfl) (ww hw 91 rfl) (ww hw 89 rfl) (ww hw 92 rfl) (by decide) 0 (rm18_61 l Z a0 hw []   h0 n0      ) (by decide) (by decide) e579 (by decide) (by decide) (g := (mkF m 5 #[.val (.int 1), .val (.int 3)] [.null, (.int 3), (.int 1)])) rfl (by rw [hml]; rfl) (argsL := [(.int (1 : Int32)), (.int (3 : Int32)), .null]) (rest := []) (lenOf pd_28IILjava2futil2ffunction2fBiFunction3b29I rfl) rfl (by show 2 * 0 + _ ≤ _; exact Nat.le_of_eq rfl) (hb hby d17_5)
 obtain ⟨rfl, N580q, e580⟩ := hQ580
 have N580 := Fr.app N0 N580q
 refine GoW.sg (mkF m 8 #[.val (.int 1), .val (.int 3)] [(.int 1)]) (fun t k => st580 t k) ?_
 refine GoW.sg (mkF m 9 #[.val (.int 1), .val (.int 3)] []) (fun t k => XS.pop X580.here hx rfl (hb hby d17_8) rfl rfl k) ?_
 refine GoW.retV X580 hx Bd.returns (hb hby d17_9) Bd.notSynchronized ?_ (by decide) (by decide)
 rw [e580]
 exact ⟨rfl, N580, rfl⟩
def Q16_63 (Z : State) (a1c : Addr) (ka1c : ClassId) (x1c : Int32) (x2c : Int32) (x3c : Int32) (h0 : Heap) (n0 : Nat) (v : Option Value) (h : Heap) (L : List Loc) : Prop := v = some (.int (nar .char (x2c &&& (255 : Int32)).toUInt32.toUInt16.toUInt32.toInt32)) ∧ Fr n0 L ∧ (h = h0)
theorem ef16_rm16_63 (m : MethodId) (a1c : Addr) : entryFrame m #[(.ref a1c), (.int (1 : Int32))] 2 = (mkF m 0 #[.val (.ref a1c), .val (.int 1)] []) := by first | (simp [entryFrame, mkF, argsToLocals, Value.category, maxLocals]; done) | rfl
set_option maxRecDepth 65536 in
set_option maxHeartbeats 40000000 in
theorem rm16_63 (l : Launch) (Z : State) (a0 : Array Value) (hw : ∀ d ∈ tables_1, d.before a0 Z = true) (ws : List Jvm.Cond) (a1c : Addr) (ka1c : ClassId) (x1c : Int32) (x2c : Int32) (x3c : Int32) (h0 : Heap) (n0 : Nat) (P0 : Arv Z h0 a1c ka1c .byte (3 : Int32) [(.int x1c), (.int x2c), (.int x3c)] (.int (0 : Int32))) (P1 : Sta Z h0 "jdk/internal/util/Preconditions" "SIOOBE_FORMATTER" "Ljava/util/function/BiFunction;" .null)      :
    MetFree l Y16 (head1 (Jvm.Cond.code Y16 jdk_43_method_2_code 2 (some .char) :: ws) ({ frames := 2, cells := 0, slots := 0, locals := 27 } : Room)) (fun a U => a = #[(.ref a1c), (.int (1 : Int32))] ∧ Z.Warmed39 U.vm ∧ U.heap = h0) (fun _ _ _ _ _ => True) (fun _ U o U' => ∃ v L, o = .returned v ∧ (Q16_63 Z a1c ka1c x1c x2c x3c h0 n0) v U'.heap L ∧ FrameEnd U o U' L 0 0) := by
 refine MetFree.of_bodySF (plainFor_of_name pn_java_lang_StringLatin1) hisR ?_
 intro p e s m args below meth c s₁ Bd hml0 hP hK
 obtain ⟨rfl, hZ, hh⟩ := hP
 have hx := Bd.exec
 have hby := Bd.bytes
 have hml : c.maxLocals = 2 := hml0
 have hown : s.vm.findClass "java/lang/StringLatin1" = some m.cls := findClass_of_methodNamed Bd.named
 have hnm := (name_of_methodNamed Bd.named Bd.method).1
 have X0 : Stand p l e ({ frames := 2, cells := 0, slots := 0, locals := 27 } : Room) s m #[(.ref a1c), (.int (1 : Int32))] below meth c s₁ [] 0 0 := Stand.of_body Bd
 have e0 : s₁.heap = h0 := by rw [← hh, Bd.state]; rfl
 have N0 := Fr.nil n0
 refine GoW.mk ?_
 refine GoW.st (fun t k => castTop (ef16_rm16_63 m a1c) k) ?_
 show GoW p e below s (Q16_63 Z a1c ka1c x1c x2c x3c h0 n0) 0 0 (s₁.setTop (mkF m 0 #[.val (.ref a1c), .val (.int 1)] []))
 refine GoW.sg (mkF m 1 #[.val (.ref a1c), .val (.int 1)] [(.int 1)]) (fun t k => XS.iloadN X0.here hx rfl (hb hby d16_0) rfl k) ?_
 refine GoW.sg (mkF m 2 #[.val (.ref a1c), .val (.int 1)] [(.ref a1c), (.int 1)]) (fun t k => XS.aloadN X0.here hx rfl (hb hby d16_1) rfl rfl k) ?_
 obtain ⟨cl583, Ar583, q583, Sz583, Nn583, Hh583, Gg583⟩ := id P0
 have st583 := X0.arraylength hx (hq_ e0 Ar583.1) (State.isArrayOf_alike hZ.alike Ar583.2.1) (g := (mkF m 2 #[.val (.ref a1c), .val (.int 1)] [(.ref a1c), (.int 1)])) rfl rfl (hb hby d16_2)
 rw [len_of Sz583 Nn583] at st583
 refine GoW.sg (mkF m 3 #[.val (.ref a1c), .val (.int 1)] [(.int 3), (.int 1)]) (fun t k => st583 t k) ?_
 obtain ⟨_, T586, L586, X586, hQ586, st586⟩ := own_callS X0 hx hZ hown (y := Y17) (ww hw 85 rfl) (ww hw 86 rfl) (ww hw 7 rfl) (ww hw 87 rfl) (by decide) 0 (rm17_62 l Z a0 hw []   h0 n0  P1    ) (by decide) (by decide) e0 (by decide) (by decide) (g := (mkF m 3 #[.val (.ref a1c), .val (.int 1)] [(.int 3), (.int 1)])) rfl (by rw [hml]; rfl) (argsL := [(.int (1 : Int32)), (.int (3 : Int32))]) (rest := []) (lenOf pd_28II29V rfl) rfl (by show 2 * 0 + _ ≤ _; exact Nat.le_of_eq rfl) (hb hby d16_3)
 obtain ⟨rfl, N586q, e586⟩ := hQ586
 have N586 := Fr.app N0 N586q
 refine GoW.sg (mkF m 6 #[.val (.ref a1c), .val (.int 1)] []) (fun t k => st586 t k) ?_
 refine GoW.sg (mkF m 7 #[.val (.ref a1c), .val (.int 1)] [(.ref a1c)]) (fun t k => XS.aloadN X586.here hx rfl (hb hby d16_6) rfl rfl k) ?_
 refine GoW.sg (mkF m 8 #[.val (.ref a1c), .val (.int 1)] [(.int 1), (.ref a1c)]) (fun t k => XS.iloadN X586.here hx rfl (hb hby d16_7) rfl k) ?_
 obtain ⟨cl587, Ar587, q587, Sz587, Nn587, Hh587, Gg587⟩ := id P0
 have hin587 : ¬ ((1 : Int32) < 0 ∨ cl587.slots.size ≤ ((1 : Int32)).toNatClampNeg) := inb_of Sz587 ⟨by decide, by decide⟩
 refine GoW.sg (mkF m 9 #[.val (.ref a1c), .val (.int 1)] [(.int x2c)]) (fun t k => X586.baloadBytes hx (j := (1 : Int32)) (v := (.int x2c)) (hq_ e586 Ar587.1) (State.isArrayOf_alike hZ.alike Ar587.2.1) Ar587.2.2 hin587 (Hh587.at hin587 rfl) (g := (mkF m 8 #[.val (.ref a1c), .val (.int 1)] [(.int 1), (.ref a1c)])) rfl rfl (hb hby d16_8) t k) ?_
 refine GoW.sg (mkF m 12 #[.val (.ref a1c), .val (.int 1)] [(.int 255), (.int x2c)]) (fun t k => XS.sipush X586.here hx rfl (hb hby d16_9) k) ?_
 refine GoW.sg (mkF m 13 #[.val (.ref a1c), .val (.int 1)] [(.int (x2c &&& (255 : Int32)))]) (fun t k => XS.iand X586.here hx rfl (hb hby d16_12) rfl k) ?_
 refine GoW.sg (mkF m 14 #[.val (.ref a1c), .val (.int 1)] [(.int (x2c &&& (255 : Int32)).toUInt32.toUInt16.toUInt32.toInt32)]) (fun t k => XS.i2c X586.here hx rfl (hb hby d16_13) rfl k) ?_
 refine GoW.retN X586 hx (t := .char) Bd.returns (by simp) (hb hby d16_14) Bd.notSynchronized ?_ (by decide) (by decide)
 rw [e586]
 exact ⟨rfl, N586, rfl⟩
def Q14_64 (Z : State) (a1c : Addr) (a2c : Addr) (ka2c : ClassId) (x1c : Int32) (x2c : Int32) (x3c : Int32) (x4c : Int32) (h0 : Heap) (n0 : Nat) (v : Option Value) (h : Heap) (L : List Loc) : Prop := v = some (.int (nar .char (nar .char (x2c &&& (255 : Int32)).toUInt32.toUInt16.toUInt32.toInt32))) ∧ Fr n0 L ∧ (h = h0)
theorem ef14_rm14_64 (m : MethodId) (a1c : Addr) : entryFrame m #[(.ref a1c), (.int (1 : Int32))] 2 = (mkF m 0 #[.val (.ref a1c), .val (.int 1)] []) := by first | (simp [entryFrame, mkF, argsToLocals, Value.category, maxLocals]; done) | rfl
set_option maxRecDepth 65536 in
set_option maxHeartbeats 40000000 in
theorem rm14_64 (l : Launch) (Z : State) (a0 : Array Value) (hw : ∀ d ∈ tables_1, d.before a0 Z = true) (ws : List Jvm.Cond) (a1c : Addr) (a2c : Addr) (ka2c : ClassId) (x1c : Int32) (x2c : Int32) (x3c : Int32) (x4c : Int32) (h0 : Heap) (n0 : Nat) (P0 : Exa Z h0 a1c "java/lang/String") (P1 : Fld Z h0 a1c "java/lang/String" "coder" "B" (.int (0 : Int32))) (P2 : Fld Z h0 a1c "java/lang/String" "value" "[B" (.ref a2c)) (P3 : Arv Z h0 a2c ka2c .byte (3 : Int32) [(.int x1c), (.int x2c), (.int x3c)] (.int (0 : Int32))) (P4 : Sta Z h0 "java/lang/String" "COMPACT_STRINGS" "Z" (.int x4c)) (P5 : Sta Z h0 "jdk/internal/util/Preconditions" "SIOOBE_FORMATTER" "Ljava/util/function/BiFunction;" .null)   (u0 : ¬ (x4c = (0 : Int32)))   :
    MetFree l Y14 (head1 (Jvm.Cond.code Y14 jdk_42_method_56_code 2 (some .char) :: ws) ({ frames := 3, cells := 0, slots := 0, locals := 40 } : Room)) (fun a U => a = #[(.ref a1c), (.int (1 : Int32))] ∧ Z.Warmed39 U.vm ∧ U.heap = h0) (fun _ _ _ _ _ => True) (fun _ U o U' => ∃ v L, o = .returned v ∧ (Q14_64 Z a1c a2c ka2c x1c x2c x3c x4c h0 n0) v U'.heap L ∧ FrameEnd U o U' L 0 0) := by
 refine MetFree.of_bodySF (plainFor_of_name pn_java_lang_String) hisR ?_
 intro p e s m args below meth c s₁ Bd hml0 hP hK
 obtain ⟨rfl, hZ, hh⟩ := hP
 have hx := Bd.exec
 have hby := Bd.bytes
 have hml : c.maxLocals = 2 := hml0
 have hown : s.vm.findClass "java/lang/String" = some m.cls := findClass_of_methodNamed Bd.named
 have hnm := (name_of_methodNamed Bd.named Bd.method).1
 have X0 : Stand p l e ({ frames := 3, cells := 0, slots := 0, locals := 40 } : Room) s m #[(.ref a1c), (.int (1 : Int32))] below meth c s₁ [] 0 0 := Stand.of_body Bd
 have e0 : s₁.heap = h0 := by rw [← hh, Bd.state]; rfl
 have N0 := Fr.nil n0
 refine GoW.mk ?_
 refine GoW.st (fun t k => castTop (ef14_rm14_64 m a1c) k) ?_
 show GoW p e below s (Q14_64 Z a1c a2c ka2c x1c x2c x3c x4c h0 n0) 0 0 (s₁.setTop (mkF m 0 #[.val (.ref a1c), .val (.int 1)] []))
 refine GoW.sg (mkF m 1 #[.val (.ref a1c), .val (.int 1)] [(.ref a1c)]) (fun t k => XS.aloadN X0.here hx rfl (hb hby d14_0) rfl rfl k) ?_
 obtain ⟨cq589, kq589, q589a, q589b, q589c⟩ := isOf hZ e0 P0
 obtain ⟨_, _, ⟨T589, L589, k589, n589⟩, -, X589, ⟨Lc589, hQ589, l589, y589, z589⟩, st589⟩ := X0.virtualBack hx (y := Y15) (z := Y15) hown (mvT hZ (ww hw 76 rfl)) (mvT hZ (ww hw 77 rfl)) (notFace_of_selects (args := #[]) (mvT hZ (ww hw 79 rfl))) (mvT hZ (ww hw 79 rfl)) (mvT hZ (ww hw 78 rfl)) (by decide) (backOf (W := 0) (rm15_13 l Z a0 hw [] a1c x4c h0 n0  P1 P4   u0 ) hZ (ww hw 80 rfl) (ww hw 7 rfl) (by decide) (by decide)) q589a q589c (g := (mkF m 1 #[.val (.ref a1c), .val (.int 1)] [(.ref a1c)])) rfl (by rw [hml]; rfl) (Steps.refl _) (argsL := []) (rest := []) (lenOf pd_2829Z rfl) rfl (by show 2 * 0 + _ ≤ _; exact Nat.le_of_eq rfl) (hb hby d14_1) (fun _ _ => ⟨rfl, e0, (by decide : 0 + 0 ≤ _), (by decide : 0 + 0 ≤ _)⟩)
 dsimp only [Pt.U, Pt.locs, Pt.cells, Pt.slots] at X589 l589 y589 z589 st589 hQ589
 subst l589 y589 z589
 obtain ⟨rfl, N589q, e589⟩ := hQ589
 have N589 := Fr.app N0 N589q
 refine GoW.sg (mkF m 4 #[.val (.ref a1c), .val (.int 1)] [(.int 1)]) (fun t k => st589.trans k) ?_
 refine GoW.sg (mkF m 7 #[.val (.ref a1c), .val (.int 1)] []) (fun t k => XS.ifNo X589.here hx rfl (hb hby d14_4) rfl (by decide) k) ?_
 refine GoW.sg (mkF m 8 #[.val (.ref a1c), .val (.int 1)] [(.ref a1c)]) (fun t k => XS.aloadN X589.here hx rfl (hb hby d14_7) rfl rfl k) ?_
 obtain ⟨T590, X590, e590, st590⟩ := getF X589 hx hZ hown (host := "") (Or.inl (ww hw 33 rfl)) Via.refl e589 P2 (g := (mkF m 8 #[.val (.ref a1c), .val (.int 1)] [(.ref a1c)])) rfl rfl (hb hby d14_8)
 refine GoW.sg (mkF m 11 #[.val (.ref a1c), .val (.int 1)] [(.ref a2c)]) (fun t k => st590 t k) ?_
 refine GoW.sg (mkF m 12 #[.val (.ref a1c), .val (.int 1)] [(.int 1), (.ref a2c)]) (fun t k => XS.iloadN X590.here hx rfl (hb hby d14_11) rfl k) ?_
 obtain ⟨_, T591, L591, X591, hQ591, st591⟩ := own_callS X590 hx hZ hown (y := Y16) (ww hw 81 rfl) (ww hw 82 rfl) (ww hw 83 rfl) (ww hw 84 rfl) (by decide) 0 (rm16_63 l Z a0 hw [] a2c ka2c x1c x2c x3c h0 n0  P3 P5    ) (by decide) (by decide) e590 (by decide) (by decide) (g := (mkF m 12 #[.val (.ref a1c), .val (.int 1)] [(.int 1), (.ref a2c)])) rfl (by rw [hml]; rfl) (argsL := [(.ref a2c), (.int (1 : Int32))]) (rest := []) (lenOf pd_285bBI29C rfl) rfl (by show 2 * 0 + _ ≤ _; exact Nat.le_of_eq rfl) (hb hby d14_12)
 obtain ⟨rfl, N591q, e591⟩ := hQ591
 have N591 := Fr.app N589 N591q
 refine GoW.sg (mkF m 15 #[.val (.ref a1c), .val (.int 1)] [(.int (nar .char (x2c &&& (255 : Int32)).toUInt32.toUInt16.toUInt32.toInt32))]) (fun t k => st591 t k) ?_
 refine GoW.retN X591 hx (t := .char) Bd.returns (by simp) (hb hby d14_15) Bd.notSynchronized ?_ (by decide) (by decide)
 rw [e591]
 exact ⟨rfl, N591, rfl⟩
def Q18_65 (Z : State)  (h0 : Heap) (n0 : Nat) (v : Option Value) (h : Heap) (L : List Loc) : Prop := v = some (.int (2 : Int32)) ∧ Fr n0 L ∧ (h = h0)
theorem ef18_rm18_65 (m : MethodId)  : entryFrame m #[(.int (2 : Int32)), (.int (3 : Int32)), .null] 3 = (mkF m 0 #[.val (.int 2), .val (.int 3), .val .null] []) := by first | (simp [entryFrame, mkF, argsToLocals, Value.category, maxLocals]; done) | rfl
set_option maxRecDepth 65536 in
set_option maxHeartbeats 40000000 in
theorem rm18_65 (l : Launch) (Z : State) (a0 : Array Value) (hw : ∀ d ∈ tables_1, d.before a0 Z = true) (ws : List Jvm.Cond)   (h0 : Heap) (n0 : Nat)       :
    MetFree l Y18 (head1 (Jvm.Cond.code Y18 jdk_41_method_11_code 3 (some .int) :: ws) ({ frames := 0, cells := 0, slots := 0, locals := 0 } : Room)) (fun a U => a = #[(.int (2 : Int32)), (.int (3 : Int32)), .null] ∧ Z.Warmed39 U.vm ∧ U.heap = h0) (fun _ _ _ _ _ => True) (fun _ U o U' => ∃ v L, o = .returned v ∧ (Q18_65 Z  h0 n0) v U'.heap L ∧ FrameEnd U o U' L 0 0) := by
 refine MetFree.of_bodySF (plainFor_of_name pn_jdk_internal_util_Preconditions) hisR ?_
 intro p e s m args below meth c s₁ Bd hml0 hP hK
 obtain ⟨rfl, hZ, hh⟩ := hP
 have hx := Bd.exec
 have hby := Bd.bytes
 have hml : c.maxLocals = 3 := hml0
 have hown : s.vm.findClass "jdk/internal/util/Preconditions" = some m.cls := findClass_of_methodNamed Bd.named
 have hnm := (name_of_methodNamed Bd.named Bd.method).1
 have X0 : Stand p l e ({ frames := 0, cells := 0, slots := 0, locals := 0 } : Room) s m #[(.int (2 : Int32)), (.int (3 : Int32)), .null] below meth c s₁ [] 0 0 := Stand.of_body Bd
 have e0 : s₁.heap = h0 := by rw [← hh, Bd.state]; rfl
 have N0 := Fr.nil n0
 refine GoW.mk ?_
 refine GoW.st (fun t k => castTop (ef18_rm18_65 m ) k) ?_
 show GoW p e below s (Q18_65 Z  h0 n0) 0 0 (s₁.setTop (mkF m 0 (Sh20 2 3) []))
 refine GoW.sg (mkF m 1 (Sh20 2 3) [(.int 2)]) (fun t k => XS.iloadN X0.here hx rfl (hb hby d18_0) rfl k) ?_
 refine GoW.sg (mkF m 4 (Sh20 2 3) []) (fun t k => XS.ifNo X0.here hx rfl (hb hby d18_1) rfl (by decide) k) ?_
 refine GoW.sg (mkF m 5 (Sh20 2 3) [(.int 2)]) (fun t k => XS.iloadN X0.here hx rfl (hb hby d18_4) rfl k) ?_
 refine GoW.sg (mkF m 6 (Sh20 2 3) [(.int 3), (.int 2)]) (fun t k => XS.iloadN X0.here hx rfl (hb hby d18_5) rfl k) ?_
 refine GoW.sg (mkF m 16 (Sh20 2 3) []) (fun t k => XS.icmpYes X0.here hx rfl (pc0 := 6) (pc' := 16) rfl (hb hby d18_6) rfl (by decide) (by decide) (by decide) k) ?_
 refine GoW.sg (mkF m 17 (Sh20 2 3) [(.int 2)]) (fun t k => XS.iloadN X0.here hx rfl (hb hby d18_16) rfl k) ?_
 refine GoW.retI X0 hx Bd.returns (hb hby d18_17) Bd.notSynchronized ?_ (by decide) (by decide)
 rw [e0]
 exact ⟨rfl, N0, rfl⟩
def Q17_66 (Z : State)  (h0 : Heap) (n0 : Nat) (v : Option Value) (h : Heap) (L : List Loc) : Prop := v = none ∧ Fr n0 L ∧ (h = h0)
theorem ef17_rm17_66 (m : MethodId)  : entryFrame m #[(.int (2 : Int32)), (.int (3 : Int32))] 2 = (mkF m 0 #[.val (.int 2), .val (.int 3)] []) := by first | (simp [entryFrame, mkF, argsToLocals, Value.category, maxLocals]; done) | rfl
set_option maxRecDepth 65536 in
set_option maxHeartbeats 40000000 in
theorem rm17_66 (l : Launch) (Z : State) (a0 : Array Value) (hw : ∀ d ∈ tables_1, d.before a0 Z = true) (ws : List Jvm.Cond)   (h0 : Heap) (n0 : Nat) (P0 : Sta Z h0 "jdk/internal/util/Preconditions" "SIOOBE_FORMATTER" "Ljava/util/function/BiFunction;" .null)      :
    MetFree l Y17 (head1 (Jvm.Cond.code Y17 jdk_42_method_155_code 2 none :: ws) ({ frames := 1, cells := 0, slots := 0, locals := 14 } : Room)) (fun a U => a = #[(.int (2 : Int32)), (.int (3 : Int32))] ∧ Z.Warmed39 U.vm ∧ U.heap = h0) (fun _ _ _ _ _ => True) (fun _ U o U' => ∃ v L, o = .returned v ∧ (Q17_66 Z  h0 n0) v U'.heap L ∧ FrameEnd U o U' L 0 0) := by
 refine MetFree.of_bodySF (plainFor_of_name pn_java_lang_String) hisR ?_
 intro p e s m args below meth c s₁ Bd hml0 hP hK
 obtain ⟨rfl, hZ, hh⟩ := hP
 have hx := Bd.exec
 have hby := Bd.bytes
 have hml : c.maxLocals = 2 := hml0
 have hown : s.vm.findClass "java/lang/String" = some m.cls := findClass_of_methodNamed Bd.named
 have hnm := (name_of_methodNamed Bd.named Bd.method).1
 have X0 : Stand p l e ({ frames := 1, cells := 0, slots := 0, locals := 14 } : Room) s m #[(.int (2 : Int32)), (.int (3 : Int32))] below meth c s₁ [] 0 0 := Stand.of_body Bd
 have e0 : s₁.heap = h0 := by rw [← hh, Bd.state]; rfl
 have N0 := Fr.nil n0
 refine GoW.mk ?_
 refine GoW.st (fun t k => castTop (ef17_rm17_66 m ) k) ?_
 show GoW p e below s (Q17_66 Z  h0 n0) 0 0 (s₁.setTop (mkF m 0 #[.val (.int 2), .val (.int 3)] []))
 refine GoW.sg (mkF m 1 #[.val (.int 2), .val (.int 3)] [(.int 2)]) (fun t k => XS.iloadN X0.here hx rfl (hb hby d17_0) rfl k) ?_
 refine GoW.sg (mkF m 2 #[.val (.int 2), .val (.int 3)] [(.int 3), (.int 2)]) (fun t k => XS.iloadN X0.here hx rfl (hb hby d17_1) rfl k) ?_
 obtain ⟨T598, X598, e598, st598⟩ := getS (host := "") X0 hx hZ hown (ww hw 88 rfl) Via.refl e0 P0 (g := (mkF m 2 #[.val (.int 2), .val (.int 3)] [(.int 3), (.int 2)])) rfl (hb hby d17_2)
 refine GoW.sg (mkF m 5 #[.val (.int 2), .val (.int 3)] [.null, (.int 3), (.int 2)]) (fun t k => st598 t k) ?_
 obtain ⟨_, T599, L599, X599, hQ599, st599⟩ := own_callS X598 hx hZ hown (y := Y18) (ww hw 90 rfl) (ww hw 91 rfl) (ww hw 89 rfl) (ww hw 92 rfl) (by decide) 0 (rm18_65 l Z a0 hw []   h0 n0      ) (by decide) (by decide) e598 (by decide) (by decide) (g := (mkF m 5 #[.val (.int 2), .val (.int 3)] [.null, (.int 3), (.int 2)])) rfl (by rw [hml]; rfl) (argsL := [(.int (2 : Int32)), (.int (3 : Int32)), .null]) (rest := []) (lenOf pd_28IILjava2futil2ffunction2fBiFunction3b29I rfl) rfl (by show 2 * 0 + _ ≤ _; exact Nat.le_of_eq rfl) (hb hby d17_5)
 obtain ⟨rfl, N599q, e599⟩ := hQ599
 have N599 := Fr.app N0 N599q
 refine GoW.sg (mkF m 8 #[.val (.int 2), .val (.int 3)] [(.int 2)]) (fun t k => st599 t k) ?_
 refine GoW.sg (mkF m 9 #[.val (.int 2), .val (.int 3)] []) (fun t k => XS.pop X599.here hx rfl (hb hby d17_8) rfl rfl k) ?_
 refine GoW.retV X599 hx Bd.returns (hb hby d17_9) Bd.notSynchronized ?_ (by decide) (by decide)
 rw [e599]
 exact ⟨rfl, N599, rfl⟩
def Q16_67 (Z : State) (a1c : Addr) (ka1c : ClassId) (x1c : Int32) (x2c : Int32) (x3c : Int32) (h0 : Heap) (n0 : Nat) (v : Option Value) (h : Heap) (L : List Loc) : Prop := v = some (.int (nar .char (x3c &&& (255 : Int32)).toUInt32.toUInt16.toUInt32.toInt32)) ∧ Fr n0 L ∧ (h = h0)
theorem ef16_rm16_67 (m : MethodId) (a1c : Addr) : entryFrame m #[(.ref a1c), (.int (2 : Int32))] 2 = (mkF m 0 #[.val (.ref a1c), .val (.int 2)] []) := by first | (simp [entryFrame, mkF, argsToLocals, Value.category, maxLocals]; done) | rfl
set_option maxRecDepth 65536 in
set_option maxHeartbeats 40000000 in
theorem rm16_67 (l : Launch) (Z : State) (a0 : Array Value) (hw : ∀ d ∈ tables_1, d.before a0 Z = true) (ws : List Jvm.Cond) (a1c : Addr) (ka1c : ClassId) (x1c : Int32) (x2c : Int32) (x3c : Int32) (h0 : Heap) (n0 : Nat) (P0 : Arv Z h0 a1c ka1c .byte (3 : Int32) [(.int x1c), (.int x2c), (.int x3c)] (.int (0 : Int32))) (P1 : Sta Z h0 "jdk/internal/util/Preconditions" "SIOOBE_FORMATTER" "Ljava/util/function/BiFunction;" .null)      :
    MetFree l Y16 (head1 (Jvm.Cond.code Y16 jdk_43_method_2_code 2 (some .char) :: ws) ({ frames := 2, cells := 0, slots := 0, locals := 27 } : Room)) (fun a U => a = #[(.ref a1c), (.int (2 : Int32))] ∧ Z.Warmed39 U.vm ∧ U.heap = h0) (fun _ _ _ _ _ => True) (fun _ U o U' => ∃ v L, o = .returned v ∧ (Q16_67 Z a1c ka1c x1c x2c x3c h0 n0) v U'.heap L ∧ FrameEnd U o U' L 0 0) := by
 refine MetFree.of_bodySF (plainFor_of_name pn_java_lang_StringLatin1) hisR ?_
 intro p e s m args below meth c s₁ Bd hml0 hP hK
 obtain ⟨rfl, hZ, hh⟩ := hP
 have hx := Bd.exec
 have hby := Bd.bytes
 have hml : c.maxLocals = 2 := hml0
 have hown : s.vm.findClass "java/lang/StringLatin1" = some m.cls := findClass_of_methodNamed Bd.named
 have hnm := (name_of_methodNamed Bd.named Bd.method).1
 have X0 : Stand p l e ({ frames := 2, cells := 0, slots := 0, locals := 27 } : Room) s m #[(.ref a1c), (.int (2 : Int32))] below meth c s₁ [] 0 0 := Stand.of_body Bd
 have e0 : s₁.heap = h0 := by rw [← hh, Bd.state]; rfl
 have N0 := Fr.nil n0
 refine GoW.mk ?_
 refine GoW.st (fun t k => castTop (ef16_rm16_67 m a1c) k) ?_
 show GoW p e below s (Q16_67 Z a1c ka1c x1c x2c x3c h0 n0) 0 0 (s₁.setTop (mkF m 0 #[.val (.ref a1c), .val (.int 2)] []))
 refine GoW.sg (mkF m 1 #[.val (.ref a1c), .val (.int 2)] [(.int 2)]) (fun t k => XS.iloadN X0.here hx rfl (hb hby d16_0) rfl k) ?_
 refine GoW.sg (mkF m 2 #[.val (.ref a1c), .val (.int 2)] [(.ref a1c), (.int 2)]) (fun t k => XS.aloadN X0.here hx rfl (hb hby d16_1) rfl rfl k) ?_
 obtain ⟨cl602, Ar602, q602, Sz602, Nn602, Hh602, Gg602⟩ := id P0
 have st602 := X0.arraylength hx (hq_ e0 Ar602.1) (State.isArrayOf_alike hZ.alike Ar602.2.1) (g := (mkF m 2 #[.val (.ref a1c), .val (.int 2)] [(.ref a1c), (.int 2)])) rfl rfl (hb hby d16_2)
 rw [len_of Sz602 Nn602] at st602
 refine GoW.sg (mkF m 3 #[.val (.ref a1c), .val (.int 2)] [(.int 3), (.int 2)]) (fun t k => st602 t k) ?_
 obtain ⟨_, T605, L605, X605, hQ605, st605⟩ := own_callS X0 hx hZ hown (y := Y17) (ww hw 85 rfl) (ww hw 86 rfl) (ww hw 7 rfl) (ww hw 87 rfl) (by decide) 0 (rm17_66 l Z a0 hw []   h0 n0  P1    ) (by decide) (by decide) e0 (by decide) (by decide) (g := (mkF m 3 #[.val (.ref a1c), .val (.int 2)] [(.int 3), (.int 2)])) rfl (by rw [hml]; rfl) (argsL := [(.int (2 : Int32)), (.int (3 : Int32))]) (rest := []) (lenOf pd_28II29V rfl) rfl (by show 2 * 0 + _ ≤ _; exact Nat.le_of_eq rfl) (hb hby d16_3)
 obtain ⟨rfl, N605q, e605⟩ := hQ605
 have N605 := Fr.app N0 N605q
 refine GoW.sg (mkF m 6 #[.val (.ref a1c), .val (.int 2)] []) (fun t k => st605 t k) ?_
 refine GoW.sg (mkF m 7 #[.val (.ref a1c), .val (.int 2)] [(.ref a1c)]) (fun t k => XS.aloadN X605.here hx rfl (hb hby d16_6) rfl rfl k) ?_
 refine GoW.sg (mkF m 8 #[.val (.ref a1c), .val (.int 2)] [(.int 2), (.ref a1c)]) (fun t k => XS.iloadN X605.here hx rfl (hb hby d16_7) rfl k) ?_
 obtain ⟨cl606, Ar606, q606, Sz606, Nn606, Hh606, Gg606⟩ := id P0
 have hin606 : ¬ ((2 : Int32) < 0 ∨ cl606.slots.size ≤ ((2 : Int32)).toNatClampNeg) := inb_of Sz606 ⟨by decide, by decide⟩
 refine GoW.sg (mkF m 9 #[.val (.ref a1c), .val (.int 2)] [(.int x3c)]) (fun t k => X605.baloadBytes hx (j := (2 : Int32)) (v := (.int x3c)) (hq_ e605 Ar606.1) (State.isArrayOf_alike hZ.alike Ar606.2.1) Ar606.2.2 hin606 (Hh606.at hin606 rfl) (g := (mkF m 8 #[.val (.ref a1c), .val (.int 2)] [(.int 2), (.ref a1c)])) rfl rfl (hb hby d16_8) t k) ?_
 refine GoW.sg (mkF m 12 #[.val (.ref a1c), .val (.int 2)] [(.int 255), (.int x3c)]) (fun t k => XS.sipush X605.here hx rfl (hb hby d16_9) k) ?_
 refine GoW.sg (mkF m 13 #[.val (.ref a1c), .val (.int 2)] [(.int (x3c &&& (255 : Int32)))]) (fun t k => XS.iand X605.here hx rfl (hb hby d16_12) rfl k) ?_
 refine GoW.sg (mkF m 14 #[.val (.ref a1c), .val (.int 2)] [(.int (x3c &&& (255 : Int32)).toUInt32.toUInt16.toUInt32.toInt32)]) (fun t k => XS.i2c X605.here hx rfl (hb hby d16_13) rfl k) ?_
 refine GoW.retN X605 hx (t := .char) Bd.returns (by simp) (hb hby d16_14) Bd.notSynchronized ?_ (by decide) (by decide)
 rw [e605]
 exact ⟨rfl, N605, rfl⟩
def Q14_68 (Z : State) (a1c : Addr) (a2c : Addr) (ka2c : ClassId) (x1c : Int32) (x2c : Int32) (x3c : Int32) (x4c : Int32) (h0 : Heap) (n0 : Nat) (v : Option Value) (h : Heap) (L : List Loc) : Prop := v = some (.int (nar .char (nar .char (x3c &&& (255 : Int32)).toUInt32.toUInt16.toUInt32.toInt32))) ∧ Fr n0 L ∧ (h = h0)
theorem ef14_rm14_68 (m : MethodId) (a1c : Addr) : entryFrame m #[(.ref a1c), (.int (2 : Int32))] 2 = (mkF m 0 #[.val (.ref a1c), .val (.int 2)] []) := by first | (simp [entryFrame, mkF, argsToLocals, Value.category, maxLocals]; done) | rfl
set_option maxRecDepth 65536 in
set_option maxHeartbeats 40000000 in
theorem rm14_68 (l : Launch) (Z : State) (a0 : Array Value) (hw : ∀ d ∈ tables_1, d.before a0 Z = true) (ws : List Jvm.Cond) (a1c : Addr) (a2c : Addr) (ka2c : ClassId) (x1c : Int32) (x2c : Int32) (x3c : Int32) (x4c : Int32) (h0 : Heap) (n0 : Nat) (P0 : Exa Z h0 a1c "java/lang/String") (P1 : Fld Z h0 a1c "java/lang/String" "coder" "B" (.int (0 : Int32))) (P2 : Fld Z h0 a1c "java/lang/String" "value" "[B" (.ref a2c)) (P3 : Arv Z h0 a2c ka2c .byte (3 : Int32) [(.int x1c), (.int x2c), (.int x3c)] (.int (0 : Int32))) (P4 : Sta Z h0 "java/lang/String" "COMPACT_STRINGS" "Z" (.int x4c)) (P5 : Sta Z h0 "jdk/internal/util/Preconditions" "SIOOBE_FORMATTER" "Ljava/util/function/BiFunction;" .null)   (u0 : ¬ (x4c = (0 : Int32)))   :
    MetFree l Y14 (head1 (Jvm.Cond.code Y14 jdk_42_method_56_code 2 (some .char) :: ws) ({ frames := 3, cells := 0, slots := 0, locals := 40 } : Room)) (fun a U => a = #[(.ref a1c), (.int (2 : Int32))] ∧ Z.Warmed39 U.vm ∧ U.heap = h0) (fun _ _ _ _ _ => True) (fun _ U o U' => ∃ v L, o = .returned v ∧ (Q14_68 Z a1c a2c ka2c x1c x2c x3c x4c h0 n0) v U'.heap L ∧ FrameEnd U o U' L 0 0) := by
 refine MetFree.of_bodySF (plainFor_of_name pn_java_lang_String) hisR ?_
 intro p e s m args below meth c s₁ Bd hml0 hP hK
 obtain ⟨rfl, hZ, hh⟩ := hP
 have hx := Bd.exec
 have hby := Bd.bytes
 have hml : c.maxLocals = 2 := hml0
 have hown : s.vm.findClass "java/lang/String" = some m.cls := findClass_of_methodNamed Bd.named
 have hnm := (name_of_methodNamed Bd.named Bd.method).1
 have X0 : Stand p l e ({ frames := 3, cells := 0, slots := 0, locals := 40 } : Room) s m #[(.ref a1c), (.int (2 : Int32))] below meth c s₁ [] 0 0 := Stand.of_body Bd
 have e0 : s₁.heap = h0 := by rw [← hh, Bd.state]; rfl
 have N0 := Fr.nil n0
 refine GoW.mk ?_
 refine GoW.st (fun t k => castTop (ef14_rm14_68 m a1c) k) ?_
 show GoW p e below s (Q14_68 Z a1c a2c ka2c x1c x2c x3c x4c h0 n0) 0 0 (s₁.setTop (mkF m 0 #[.val (.ref a1c), .val (.int 2)] []))
 refine GoW.sg (mkF m 1 #[.val (.ref a1c), .val (.int 2)] [(.ref a1c)]) (fun t k => XS.aloadN X0.here hx rfl (hb hby d14_0) rfl rfl k) ?_
 obtain ⟨cq608, kq608, q608a, q608b, q608c⟩ := isOf hZ e0 P0
 obtain ⟨_, _, ⟨T608, L608, k608, n608⟩, -, X608, ⟨Lc608, hQ608, l608, y608, z608⟩, st608⟩ := X0.virtualBack hx (y := Y15) (z := Y15) hown (mvT hZ (ww hw 76 rfl)) (mvT hZ (ww hw 77 rfl)) (notFace_of_selects (args := #[]) (mvT hZ (ww hw 79 rfl))) (mvT hZ (ww hw 79 rfl)) (mvT hZ (ww hw 78 rfl)) (by decide) (backOf (W := 0) (rm15_13 l Z a0 hw [] a1c x4c h0 n0  P1 P4   u0 ) hZ (ww hw 80 rfl) (ww hw 7 rfl) (by decide) (by decide)) q608a q608c (g := (mkF m 1 #[.val (.ref a1c), .val (.int 2)] [(.ref a1c)])) rfl (by rw [hml]; rfl) (Steps.refl _) (argsL := []) (rest := []) (lenOf pd_2829Z rfl) rfl (by show 2 * 0 + _ ≤ _; exact Nat.le_of_eq rfl) (hb hby d14_1) (fun _ _ => ⟨rfl, e0, (by decide : 0 + 0 ≤ _), (by decide : 0 + 0 ≤ _)⟩)
 dsimp only [Pt.U, Pt.locs, Pt.cells, Pt.slots] at X608 l608 y608 z608 st608 hQ608
 subst l608 y608 z608
 obtain ⟨rfl, N608q, e608⟩ := hQ608
 have N608 := Fr.app N0 N608q
 refine GoW.sg (mkF m 4 #[.val (.ref a1c), .val (.int 2)] [(.int 1)]) (fun t k => st608.trans k) ?_
 refine GoW.sg (mkF m 7 #[.val (.ref a1c), .val (.int 2)] []) (fun t k => XS.ifNo X608.here hx rfl (hb hby d14_4) rfl (by decide) k) ?_
 refine GoW.sg (mkF m 8 #[.val (.ref a1c), .val (.int 2)] [(.ref a1c)]) (fun t k => XS.aloadN X608.here hx rfl (hb hby d14_7) rfl rfl k) ?_
 obtain ⟨T609, X609, e609, st609⟩ := getF X608 hx hZ hown (host := "") (Or.inl (ww hw 33 rfl)) Via.refl e608 P2 (g := (mkF m 8 #[.val (.ref a1c), .val (.int 2)] [(.ref a1c)])) rfl rfl (hb hby d14_8)
 refine GoW.sg (mkF m 11 #[.val (.ref a1c), .val (.int 2)] [(.ref a2c)]) (fun t k => st609 t k) ?_
 refine GoW.sg (mkF m 12 #[.val (.ref a1c), .val (.int 2)] [(.int 2), (.ref a2c)]) (fun t k => XS.iloadN X609.here hx rfl (hb hby d14_11) rfl k) ?_
 obtain ⟨_, T610, L610, X610, hQ610, st610⟩ := own_callS X609 hx hZ hown (y := Y16) (ww hw 81 rfl) (ww hw 82 rfl) (ww hw 83 rfl) (ww hw 84 rfl) (by decide) 0 (rm16_67 l Z a0 hw [] a2c ka2c x1c x2c x3c h0 n0  P3 P5    ) (by decide) (by decide) e609 (by decide) (by decide) (g := (mkF m 12 #[.val (.ref a1c), .val (.int 2)] [(.int 2), (.ref a2c)])) rfl (by rw [hml]; rfl) (argsL := [(.ref a2c), (.int (2 : Int32))]) (rest := []) (lenOf pd_285bBI29C rfl) rfl (by show 2 * 0 + _ ≤ _; exact Nat.le_of_eq rfl) (hb hby d14_12)
 obtain ⟨rfl, N610q, e610⟩ := hQ610
 have N610 := Fr.app N608 N610q
 refine GoW.sg (mkF m 15 #[.val (.ref a1c), .val (.int 2)] [(.int (nar .char (x3c &&& (255 : Int32)).toUInt32.toUInt16.toUInt32.toInt32))]) (fun t k => st610 t k) ?_
 refine GoW.retN X610 hx (t := .char) Bd.returns (by simp) (hb hby d14_15) Bd.notSynchronized ?_ (by decide) (by decide)
 rw [e610]
 exact ⟨rfl, N610, rfl⟩
def Q18_69 (Z : State) (a1c : Addr) (h0 : Heap) (n0 : Nat) (v : Option Value) (h : Heap) (L : List Loc) : Prop := v = some (.int (0 : Int32)) ∧ Fr n0 L ∧ (h = h0)
theorem ef18_rm18_69 (m : MethodId) (a1c : Addr) : entryFrame m #[(.int (0 : Int32)), (.int (3 : Int32)), (.ref a1c)] 3 = (mkF m 0 #[.val (.int 0), .val (.int 3), .val (.ref a1c)] []) := by first | (simp [entryFrame, mkF, argsToLocals, Value.category, maxLocals]; done) | rfl
set_option maxRecDepth 65536 in
set_option maxHeartbeats 40000000 in
theorem rm18_69 (l : Launch) (Z : State) (a0 : Array Value) (hw : ∀ d ∈ tables_1, d.before a0 Z = true) (ws : List Jvm.Cond) (a1c : Addr)  (h0 : Heap) (n0 : Nat)       :
    MetFree l Y18 (head1 (Jvm.Cond.code Y18 jdk_41_method_11_code 3 (some .int) :: ws) ({ frames := 0, cells := 0, slots := 0, locals := 0 } : Room)) (fun a U => a = #[(.int (0 : Int32)), (.int (3 : Int32)), (.ref a1c)] ∧ Z.Warmed39 U.vm ∧ U.heap = h0) (fun _ _ _ _ _ => True) (fun _ U o U' => ∃ v L, o = .returned v ∧ (Q18_69 Z a1c h0 n0) v U'.heap L ∧ FrameEnd U o U' L 0 0) := by
 refine MetFree.of_bodySF (plainFor_of_name pn_jdk_internal_util_Preconditions) hisR ?_
 intro p e s m args below meth c s₁ Bd hml0 hP hK
 obtain ⟨rfl, hZ, hh⟩ := hP
 have hx := Bd.exec
 have hby := Bd.bytes
 have hml : c.maxLocals = 3 := hml0
 have hown : s.vm.findClass "jdk/internal/util/Preconditions" = some m.cls := findClass_of_methodNamed Bd.named
 have hnm := (name_of_methodNamed Bd.named Bd.method).1
 have X0 : Stand p l e ({ frames := 0, cells := 0, slots := 0, locals := 0 } : Room) s m #[(.int (0 : Int32)), (.int (3 : Int32)), (.ref a1c)] below meth c s₁ [] 0 0 := Stand.of_body Bd
 have e0 : s₁.heap = h0 := by rw [← hh, Bd.state]; rfl
 have N0 := Fr.nil n0
 refine GoW.mk ?_
 refine GoW.st (fun t k => castTop (ef18_rm18_69 m a1c) k) ?_
 show GoW p e below s (Q18_69 Z a1c h0 n0) 0 0 (s₁.setTop (mkF m 0 (Sh21 0 3 a1c) []))
 refine GoW.sg (mkF m 1 (Sh21 0 3 a1c) [(.int 0)]) (fun t k => XS.iloadN X0.here hx rfl (hb hby d18_0) rfl k) ?_
 refine GoW.sg (mkF m 4 (Sh21 0 3 a1c) []) (fun t k => XS.ifNo X0.here hx rfl (hb hby d18_1) rfl (by decide) k) ?_
 refine GoW.sg (mkF m 5 (Sh21 0 3 a1c) [(.int 0)]) (fun t k => XS.iloadN X0.here hx rfl (hb hby d18_4) rfl k) ?_
 refine GoW.sg (mkF m 6 (Sh21 0 3 a1c) [(.int 3), (.int 0)]) (fun t k => XS.iloadN X0.here hx rfl (hb hby d18_5) rfl k) ?_
 refine GoW.sg (mkF m 16 (Sh21 0 3 a1c) []) (fun t k => XS.icmpYes X0.here hx rfl (pc0 := 6) (pc' := 16) rfl (hb hby d18_6) rfl (by decide) (by decide) (by decide) k) ?_
 refine GoW.sg (mkF m 17 (Sh21 0 3 a1c) [(.int 0)]) (fun t k => XS.iloadN X0.here hx rfl (hb hby d18_16) rfl k) ?_
 refine GoW.retI X0 hx Bd.returns (hb hby d18_17) Bd.notSynchronized ?_ (by decide) (by decide)
 rw [e0]
 exact ⟨rfl, N0, rfl⟩
def Q17_70 (Z : State) (a1c : Addr) (h0 : Heap) (n0 : Nat) (v : Option Value) (h : Heap) (L : List Loc) : Prop := v = none ∧ Fr n0 L ∧ (h = h0)
theorem ef17_rm17_70 (m : MethodId)  : entryFrame m #[(.int (0 : Int32)), (.int (3 : Int32))] 2 = (mkF m 0 #[.val (.int 0), .val (.int 3)] []) := by first | (simp [entryFrame, mkF, argsToLocals, Value.category, maxLocals]; done) | rfl
set_option maxRecDepth 65536 in
set_option maxHeartbeats 40000000 in
theorem rm17_70 (l : Launch) (Z : State) (a0 : Array Value) (hw : ∀ d ∈ tables_1, d.before a0 Z = true) (ws : List Jvm.Cond)  (a1c : Addr) (h0 : Heap) (n0 : Nat) (P0 : Sta Z h0 "jdk/internal/util/Preconditions" "SIOOBE_FORMATTER" "Ljava/util/function/BiFunction;" (.ref a1c))      :
    MetFree l Y17 (head1 (Jvm.Cond.code Y17 jdk_42_method_155_code 2 none :: ws) ({ frames := 1, cells := 0, slots := 0, locals := 14 } : Room)) (fun a U => a = #[(.int (0 : Int32)), (.int (3 : Int32))] ∧ Z.Warmed39 U.vm ∧ U.heap = h0) (fun _ _ _ _ _ => True) (fun _ U o U' => ∃ v L, o = .returned v ∧ (Q17_70 Z a1c h0 n0) v U'.heap L ∧ FrameEnd U o U' L 0 0) := by
 refine MetFree.of_bodySF (plainFor_of_name pn_java_lang_String) hisR ?_
 intro p e s m args below meth c s₁ Bd hml0 hP hK
 obtain ⟨rfl, hZ, hh⟩ := hP
 have hx := Bd.exec
 have hby := Bd.bytes
 have hml : c.maxLocals = 2 := hml0
 have hown : s.vm.findClass "java/lang/String" = some m.cls := findClass_of_methodNamed Bd.named
 have hnm := (name_of_methodNamed Bd.named Bd.method).1
 have X0 : Stand p l e ({ frames := 1, cells := 0, slots := 0, locals := 14 } : Room) s m #[(.int (0 : Int32)), (.int (3 : Int32))] below meth c s₁ [] 0 0 := Stand.of_body Bd
 have e0 : s₁.heap = h0 := by rw [← hh, Bd.state]; rfl
 have N0 := Fr.nil n0
 refine GoW.mk ?_
 refine GoW.st (fun t k => castTop (ef17_rm17_70 m ) k) ?_
 show GoW p e below s (Q17_70 Z a1c h0 n0) 0 0 (s₁.setTop (mkF m 0 #[.val (.int 0), .val (.int 3)] []))
 refine GoW.sg (mkF m 1 #[.val (.int 0), .val (.int 3)] [(.int 0)]) (fun t k => XS.iloadN X0.here hx rfl (hb hby d17_0) rfl k) ?_
 refine GoW.sg (mkF m 2 #[.val (.int 0), .val (.int 3)] [(.int 3), (.int 0)]) (fun t k => XS.iloadN X0.here hx rfl (hb hby d17_1) rfl k) ?_
 obtain ⟨T619, X619, e619, st619⟩ := getS (host := "") X0 hx hZ hown (ww hw 88 rfl) Via.refl e0 P0 (g := (mkF m 2 #[.val (.int 0), .val (.int 3)] [(.int 3), (.int 0)])) rfl (hb hby d17_2)
 refine GoW.sg (mkF m 5 #[.val (.int 0), .val (.int 3)] [(.ref a1c), (.int 3), (.int 0)]) (fun t k => st619 t k) ?_
 obtain ⟨_, T620, L620, X620, hQ620, st620⟩ := own_callS X619 hx hZ hown (y := Y18) (ww hw 90 rfl) (ww hw 91 rfl) (ww hw 89 rfl) (ww hw 92 rfl) (by decide) 0 (rm18_69 l Z a0 hw [] a1c  h0 n0      ) (by decide) (by decide) e619 (by decide) (by decide) (g := (mkF m 5 #[.val (.int 0), .val (.int 3)] [(.ref a1c), (.int 3), (.int 0)])) rfl (by rw [hml]; rfl) (argsL := [(.int (0 : Int32)), (.int (3 : Int32)), (.ref a1c)]) (rest := []) (lenOf pd_28IILjava2futil2ffunction2fBiFunction3b29I rfl) rfl (by show 2 * 0 + _ ≤ _; exact Nat.le_of_eq rfl) (hb hby d17_5)
 obtain ⟨rfl, N620q, e620⟩ := hQ620
 have N620 := Fr.app N0 N620q
 refine GoW.sg (mkF m 8 #[.val (.int 0), .val (.int 3)] [(.int 0)]) (fun t k => st620 t k) ?_
 refine GoW.sg (mkF m 9 #[.val (.int 0), .val (.int 3)] []) (fun t k => XS.pop X620.here hx rfl (hb hby d17_8) rfl rfl k) ?_
 refine GoW.retV X620 hx Bd.returns (hb hby d17_9) Bd.notSynchronized ?_ (by decide) (by decide)
 rw [e620]
 exact ⟨rfl, N620, rfl⟩
def Q16_71 (Z : State) (a1c : Addr) (ka1c : ClassId) (x1c : Int32) (x2c : Int32) (x3c : Int32) (a2c : Addr) (h0 : Heap) (n0 : Nat) (v : Option Value) (h : Heap) (L : List Loc) : Prop := v = some (.int (nar .char (x1c &&& (255 : Int32)).toUInt32.toUInt16.toUInt32.toInt32)) ∧ Fr n0 L ∧ (h = h0)
theorem ef16_rm16_71 (m : MethodId) (a1c : Addr) : entryFrame m #[(.ref a1c), (.int (0 : Int32))] 2 = (mkF m 0 #[.val (.ref a1c), .val (.int 0)] []) := by first | (simp [entryFrame, mkF, argsToLocals, Value.category, maxLocals]; done) | rfl
set_option maxRecDepth 65536 in
set_option maxHeartbeats 40000000 in
theorem rm16_71 (l : Launch) (Z : State) (a0 : Array Value) (hw : ∀ d ∈ tables_1, d.before a0 Z = true) (ws : List Jvm.Cond) (a1c : Addr) (ka1c : ClassId) (x1c : Int32) (x2c : Int32) (x3c : Int32) (a2c : Addr) (h0 : Heap) (n0 : Nat) (P0 : Arv Z h0 a1c ka1c .byte (3 : Int32) [(.int x1c), (.int x2c), (.int x3c)] (.int (0 : Int32))) (P1 : Sta Z h0 "jdk/internal/util/Preconditions" "SIOOBE_FORMATTER" "Ljava/util/function/BiFunction;" (.ref a2c))      :
    MetFree l Y16 (head1 (Jvm.Cond.code Y16 jdk_43_method_2_code 2 (some .char) :: ws) ({ frames := 2, cells := 0, slots := 0, locals := 27 } : Room)) (fun a U => a = #[(.ref a1c), (.int (0 : Int32))] ∧ Z.Warmed39 U.vm ∧ U.heap = h0) (fun _ _ _ _ _ => True) (fun _ U o U' => ∃ v L, o = .returned v ∧ (Q16_71 Z a1c ka1c x1c x2c x3c a2c h0 n0) v U'.heap L ∧ FrameEnd U o U' L 0 0) := by
 refine MetFree.of_bodySF (plainFor_of_name pn_java_lang_StringLatin1) hisR ?_
 intro p e s m args below meth c s₁ Bd hml0 hP hK
 obtain ⟨rfl, hZ, hh⟩ := hP
 have hx := Bd.exec
 have hby := Bd.bytes
 have hml : c.maxLocals = 2 := hml0
 have hown : s.vm.findClass "java/lang/StringLatin1" = some m.cls := findClass_of_methodNamed Bd.named
 have hnm := (name_of_methodNamed Bd.named Bd.method).1
 have X0 : Stand p l e ({ frames := 2, cells := 0, slots := 0, locals := 27 } : Room) s m #[(.ref a1c), (.int (0 : Int32))] below meth c s₁ [] 0 0 := Stand.of_body Bd
 have e0 : s₁.heap = h0 := by rw [← hh, Bd.state]; rfl
 have N0 := Fr.nil n0
 refine GoW.mk ?_
 refine GoW.st (fun t k => castTop (ef16_rm16_71 m a1c) k) ?_
 show GoW p e below s (Q16_71 Z a1c ka1c x1c x2c x3c a2c h0 n0) 0 0 (s₁.setTop (mkF m 0 #[.val (.ref a1c), .val (.int 0)] []))
 refine GoW.sg (mkF m 1 #[.val (.ref a1c), .val (.int 0)] [(.int 0)]) (fun t k => XS.iloadN X0.here hx rfl (hb hby d16_0) rfl k) ?_
 refine GoW.sg (mkF m 2 #[.val (.ref a1c), .val (.int 0)] [(.ref a1c), (.int 0)]) (fun t k => XS.aloadN X0.here hx rfl (hb hby d16_1) rfl rfl k) ?_
 obtain ⟨cl623, Ar623, q623, Sz623, Nn623, Hh623, Gg623⟩ := id P0
 have st623 := X0.arraylength hx (hq_ e0 Ar623.1) (State.isArrayOf_alike hZ.alike Ar623.2.1) (g := (mkF m 2 #[.val (.ref a1c), .val (.int 0)] [(.ref a1c), (.int 0)])) rfl rfl (hb hby d16_2)
 rw [len_of Sz623 Nn623] at st623
 refine GoW.sg (mkF m 3 #[.val (.ref a1c), .val (.int 0)] [(.int 3), (.int 0)]) (fun t k => st623 t k) ?_
 obtain ⟨_, T626, L626, X626, hQ626, st626⟩ := own_callS X0 hx hZ hown (y := Y17) (ww hw 85 rfl) (ww hw 86 rfl) (ww hw 7 rfl) (ww hw 87 rfl) (by decide) 0 (rm17_70 l Z a0 hw []  a2c h0 n0  P1    ) (by decide) (by decide) e0 (by decide) (by decide) (g := (mkF m 3 #[.val (.ref a1c), .val (.int 0)] [(.int 3), (.int 0)])) rfl (by rw [hml]; rfl) (argsL := [(.int (0 : Int32)), (.int (3 : Int32))]) (rest := []) (lenOf pd_28II29V rfl) rfl (by show 2 * 0 + _ ≤ _; exact Nat.le_of_eq rfl) (hb hby d16_3)
 obtain ⟨rfl, N626q, e626⟩ := hQ626
 have N626 := Fr.app N0 N626q
 refine GoW.sg (mkF m 6 #[.val (.ref a1c), .val (.int 0)] []) (fun t k => st626 t k) ?_
 refine GoW.sg (mkF m 7 #[.val (.ref a1c), .val (.int 0)] [(.ref a1c)]) (fun t k => XS.aloadN X626.here hx rfl (hb hby d16_6) rfl rfl k) ?_
 refine GoW.sg (mkF m 8 #[.val (.ref a1c), .val (.int 0)] [(.int 0), (.ref a1c)]) (fun t k => XS.iloadN X626.here hx rfl (hb hby d16_7) rfl k) ?_
 obtain ⟨cl627, Ar627, q627, Sz627, Nn627, Hh627, Gg627⟩ := id P0
 have hin627 : ¬ ((0 : Int32) < 0 ∨ cl627.slots.size ≤ ((0 : Int32)).toNatClampNeg) := inb_of Sz627 ⟨by decide, by decide⟩
 refine GoW.sg (mkF m 9 #[.val (.ref a1c), .val (.int 0)] [(.int x1c)]) (fun t k => X626.baloadBytes hx (j := (0 : Int32)) (v := (.int x1c)) (hq_ e626 Ar627.1) (State.isArrayOf_alike hZ.alike Ar627.2.1) Ar627.2.2 hin627 (Hh627.at hin627 rfl) (g := (mkF m 8 #[.val (.ref a1c), .val (.int 0)] [(.int 0), (.ref a1c)])) rfl rfl (hb hby d16_8) t k) ?_
 refine GoW.sg (mkF m 12 #[.val (.ref a1c), .val (.int 0)] [(.int 255), (.int x1c)]) (fun t k => XS.sipush X626.here hx rfl (hb hby d16_9) k) ?_
 refine GoW.sg (mkF m 13 #[.val (.ref a1c), .val (.int 0)] [(.int (x1c &&& (255 : Int32)))]) (fun t k => XS.iand X626.here hx rfl (hb hby d16_12) rfl k) ?_
 refine GoW.sg (mkF m 14 #[.val (.ref a1c), .val (.int 0)] [(.int (x1c &&& (255 : Int32)).toUInt32.toUInt16.toUInt32.toInt32)]) (fun t k => XS.i2c X626.here hx rfl (hb hby d16_13) rfl k) ?_
 refine GoW.retN X626 hx (t := .char) Bd.returns (by simp) (hb hby d16_14) Bd.notSynchronized ?_ (by decide) (by decide)
 rw [e626]
 exact ⟨rfl, N626, rfl⟩
def Q14_72 (Z : State) (a1c : Addr) (a2c : Addr) (ka2c : ClassId) (x1c : Int32) (x2c : Int32) (x3c : Int32) (x4c : Int32) (a3c : Addr) (h0 : Heap) (n0 : Nat) (v : Option Value) (h : Heap) (L : List Loc) : Prop := v = some (.int (nar .char (nar .char (x1c &&& (255 : Int32)).toUInt32.toUInt16.toUInt32.toInt32))) ∧ Fr n0 L ∧ (h = h0)
theorem ef14_rm14_72 (m : MethodId) (a1c : Addr) : entryFrame m #[(.ref a1c), (.int (0 : Int32))] 2 = (mkF m 0 #[.val (.ref a1c), .val (.int 0)] []) := by first | (simp [entryFrame, mkF, argsToLocals, Value.category, maxLocals]; done) | rfl
set_option maxRecDepth 65536 in
set_option maxHeartbeats 40000000 in
theorem rm14_72 (l : Launch) (Z : State) (a0 : Array Value) (hw : ∀ d ∈ tables_1, d.before a0 Z = true) (ws : List Jvm.Cond) (a1c : Addr) (a2c : Addr) (ka2c : ClassId) (x1c : Int32) (x2c : Int32) (x3c : Int32) (x4c : Int32) (a3c : Addr) (h0 : Heap) (n0 : Nat) (P0 : Exa Z h0 a1c "java/lang/String") (P1 : Fld Z h0 a1c "java/lang/String" "coder" "B" (.int (0 : Int32))) (P2 : Fld Z h0 a1c "java/lang/String" "value" "[B" (.ref a2c)) (P3 : Arv Z h0 a2c ka2c .byte (3 : Int32) [(.int x1c), (.int x2c), (.int x3c)] (.int (0 : Int32))) (P4 : Sta Z h0 "java/lang/String" "COMPACT_STRINGS" "Z" (.int x4c)) (P5 : Sta Z h0 "jdk/internal/util/Preconditions" "SIOOBE_FORMATTER" "Ljava/util/function/BiFunction;" (.ref a3c))   (u0 : ¬ (x4c = (0 : Int32)))   :
    MetFree l Y14 (head1 (Jvm.Cond.code Y14 jdk_42_method_56_code 2 (some .char) :: ws) ({ frames := 3, cells := 0, slots := 0, locals := 40 } : Room)) (fun a U => a = #[(.ref a1c), (.int (0 : Int32))] ∧ Z.Warmed39 U.vm ∧ U.heap = h0) (fun _ _ _ _ _ => True) (fun _ U o U' => ∃ v L, o = .returned v ∧ (Q14_72 Z a1c a2c ka2c x1c x2c x3c x4c a3c h0 n0) v U'.heap L ∧ FrameEnd U o U' L 0 0) := by
 refine MetFree.of_bodySF (plainFor_of_name pn_java_lang_String) hisR ?_
 intro p e s m args below meth c s₁ Bd hml0 hP hK
 obtain ⟨rfl, hZ, hh⟩ := hP
 have hx := Bd.exec
 have hby := Bd.bytes
 have hml : c.maxLocals = 2 := hml0
 have hown : s.vm.findClass "java/lang/String" = some m.cls := findClass_of_methodNamed Bd.named
 have hnm := (name_of_methodNamed Bd.named Bd.method).1
 have X0 : Stand p l e ({ frames := 3, cells := 0, slots := 0, locals := 40 } : Room) s m #[(.ref a1c), (.int (0 : Int32))] below meth c s₁ [] 0 0 := Stand.of_body Bd
 have e0 : s₁.heap = h0 := by rw [← hh, Bd.state]; rfl
 have N0 := Fr.nil n0
 refine GoW.mk ?_
 refine GoW.st (fun t k => castTop (ef14_rm14_72 m a1c) k) ?_
 show GoW p e below s (Q14_72 Z a1c a2c ka2c x1c x2c x3c x4c a3c h0 n0) 0 0 (s₁.setTop (mkF m 0 #[.val (.ref a1c), .val (.int 0)] []))
 refine GoW.sg (mkF m 1 #[.val (.ref a1c), .val (.int 0)] [(.ref a1c)]) (fun t k => XS.aloadN X0.here hx rfl (hb hby d14_0) rfl rfl k) ?_
 obtain ⟨cq629, kq629, q629a, q629b, q629c⟩ := isOf hZ e0 P0
 obtain ⟨_, _, ⟨T629, L629, k629, n629⟩, -, X629, ⟨Lc629, hQ629, l629, y629, z629⟩, st629⟩ := X0.virtualBack hx (y := Y15) (z := Y15) hown (mvT hZ (ww hw 76 rfl)) (mvT hZ (ww hw 77 rfl)) (notFace_of_selects (args := #[]) (mvT hZ (ww hw 79 rfl))) (mvT hZ (ww hw 79 rfl)) (mvT hZ (ww hw 78 rfl)) (by decide) (backOf (W := 0) (rm15_13 l Z a0 hw [] a1c x4c h0 n0  P1 P4   u0 ) hZ (ww hw 80 rfl) (ww hw 7 rfl) (by decide) (by decide)) q629a q629c (g := (mkF m 1 #[.val (.ref a1c), .val (.int 0)] [(.ref a1c)])) rfl (by rw [hml]; rfl) (Steps.refl _) (argsL := []) (rest := []) (lenOf pd_2829Z rfl) rfl (by show 2 * 0 + _ ≤ _; exact Nat.le_of_eq rfl) (hb hby d14_1) (fun _ _ => ⟨rfl, e0, (by decide : 0 + 0 ≤ _), (by decide : 0 + 0 ≤ _)⟩)
 dsimp only [Pt.U, Pt.locs, Pt.cells, Pt.slots] at X629 l629 y629 z629 st629 hQ629
 subst l629 y629 z629
 obtain ⟨rfl, N629q, e629⟩ := hQ629
 have N629 := Fr.app N0 N629q
 refine GoW.sg (mkF m 4 #[.val (.ref a1c), .val (.int 0)] [(.int 1)]) (fun t k => st629.trans k) ?_
 refine GoW.sg (mkF m 7 #[.val (.ref a1c), .val (.int 0)] []) (fun t k => XS.ifNo X629.here hx rfl (hb hby d14_4) rfl (by decide) k) ?_
 refine GoW.sg (mkF m 8 #[.val (.ref a1c), .val (.int 0)] [(.ref a1c)]) (fun t k => XS.aloadN X629.here hx rfl (hb hby d14_7) rfl rfl k) ?_
 obtain ⟨T630, X630, e630, st630⟩ := getF X629 hx hZ hown (host := "") (Or.inl (ww hw 33 rfl)) Via.refl e629 P2 (g := (mkF m 8 #[.val (.ref a1c), .val (.int 0)] [(.ref a1c)])) rfl rfl (hb hby d14_8)
 refine GoW.sg (mkF m 11 #[.val (.ref a1c), .val (.int 0)] [(.ref a2c)]) (fun t k => st630 t k) ?_
 refine GoW.sg (mkF m 12 #[.val (.ref a1c), .val (.int 0)] [(.int 0), (.ref a2c)]) (fun t k => XS.iloadN X630.here hx rfl (hb hby d14_11) rfl k) ?_
 obtain ⟨_, T631, L631, X631, hQ631, st631⟩ := own_callS X630 hx hZ hown (y := Y16) (ww hw 81 rfl) (ww hw 82 rfl) (ww hw 83 rfl) (ww hw 84 rfl) (by decide) 0 (rm16_71 l Z a0 hw [] a2c ka2c x1c x2c x3c a3c h0 n0  P3 P5    ) (by decide) (by decide) e630 (by decide) (by decide) (g := (mkF m 12 #[.val (.ref a1c), .val (.int 0)] [(.int 0), (.ref a2c)])) rfl (by rw [hml]; rfl) (argsL := [(.ref a2c), (.int (0 : Int32))]) (rest := []) (lenOf pd_285bBI29C rfl) rfl (by show 2 * 0 + _ ≤ _; exact Nat.le_of_eq rfl) (hb hby d14_12)
 obtain ⟨rfl, N631q, e631⟩ := hQ631
 have N631 := Fr.app N629 N631q
 refine GoW.sg (mkF m 15 #[.val (.ref a1c), .val (.int 0)] [(.int (nar .char (x1c &&& (255 : Int32)).toUInt32.toUInt16.toUInt32.toInt32))]) (fun t k => st631 t k) ?_
 refine GoW.retN X631 hx (t := .char) Bd.returns (by simp) (hb hby d14_15) Bd.notSynchronized ?_ (by decide) (by decide)
 rw [e631]
 exact ⟨rfl, N631, rfl⟩
def Q18_73 (Z : State) (a1c : Addr) (h0 : Heap) (n0 : Nat) (v : Option Value) (h : Heap) (L : List Loc) : Prop := v = some (.int (1 : Int32)) ∧ Fr n0 L ∧ (h = h0)
theorem ef18_rm18_73 (m : MethodId) (a1c : Addr) : entryFrame m #[(.int (1 : Int32)), (.int (3 : Int32)), (.ref a1c)] 3 = (mkF m 0 #[.val (.int 1), .val (.int 3), .val (.ref a1c)] []) := by first | (simp [entryFrame, mkF, argsToLocals, Value.category, maxLocals]; done) | rfl
set_option maxRecDepth 65536 in
set_option maxHeartbeats 40000000 in
theorem rm18_73 (l : Launch) (Z : State) (a0 : Array Value) (hw : ∀ d ∈ tables_1, d.before a0 Z = true) (ws : List Jvm.Cond) (a1c : Addr)  (h0 : Heap) (n0 : Nat)       :
    MetFree l Y18 (head1 (Jvm.Cond.code Y18 jdk_41_method_11_code 3 (some .int) :: ws) ({ frames := 0, cells := 0, slots := 0, locals := 0 } : Room)) (fun a U => a = #[(.int (1 : Int32)), (.int (3 : Int32)), (.ref a1c)] ∧ Z.Warmed39 U.vm ∧ U.heap = h0) (fun _ _ _ _ _ => True) (fun _ U o U' => ∃ v L, o = .returned v ∧ (Q18_73 Z a1c h0 n0) v U'.heap L ∧ FrameEnd U o U' L 0 0) := by
 refine MetFree.of_bodySF (plainFor_of_name pn_jdk_internal_util_Preconditions) hisR ?_
 intro p e s m args below meth c s₁ Bd hml0 hP hK
 obtain ⟨rfl, hZ, hh⟩ := hP
 have hx := Bd.exec
 have hby := Bd.bytes
 have hml : c.maxLocals = 3 := hml0
 have hown : s.vm.findClass "jdk/internal/util/Preconditions" = some m.cls := findClass_of_methodNamed Bd.named
 have hnm := (name_of_methodNamed Bd.named Bd.method).1
 have X0 : Stand p l e ({ frames := 0, cells := 0, slots := 0, locals := 0 } : Room) s m #[(.int (1 : Int32)), (.int (3 : Int32)), (.ref a1c)] below meth c s₁ [] 0 0 := Stand.of_body Bd
 have e0 : s₁.heap = h0 := by rw [← hh, Bd.state]; rfl
 have N0 := Fr.nil n0
 refine GoW.mk ?_
 refine GoW.st (fun t k => castTop (ef18_rm18_73 m a1c) k) ?_
 show GoW p e below s (Q18_73 Z a1c h0 n0) 0 0 (s₁.setTop (mkF m 0 (Sh21 1 3 a1c) []))
 refine GoW.sg (mkF m 1 (Sh21 1 3 a1c) [(.int 1)]) (fun t k => XS.iloadN X0.here hx rfl (hb hby d18_0) rfl k) ?_
 refine GoW.sg (mkF m 4 (Sh21 1 3 a1c) []) (fun t k => XS.ifNo X0.here hx rfl (hb hby d18_1) rfl (by decide) k) ?_
 refine GoW.sg (mkF m 5 (Sh21 1 3 a1c) [(.int 1)]) (fun t k => XS.iloadN X0.here hx rfl (hb hby d18_4) rfl k) ?_
 refine GoW.sg (mkF m 6 (Sh21 1 3 a1c) [(.int 3), (.int 1)]) (fun t k => XS.iloadN X0.here hx rfl (hb hby d18_5) rfl k) ?_
 refine GoW.sg (mkF m 16 (Sh21 1 3 a1c) []) (fun t k => XS.icmpYes X0.here hx rfl (pc0 := 6) (pc' := 16) rfl (hb hby d18_6) rfl (by decide) (by decide) (by decide) k) ?_
 refine GoW.sg (mkF m 17 (Sh21 1 3 a1c) [(.int 1)]) (fun t k => XS.iloadN X0.here hx rfl (hb hby d18_16) rfl k) ?_
 refine GoW.retI X0 hx Bd.returns (hb hby d18_17) Bd.notSynchronized ?_ (by decide) (by decide)
 rw [e0]
 exact ⟨rfl, N0, rfl⟩
def Q17_74 (Z : State) (a1c : Addr) (h0 : Heap) (n0 : Nat) (v : Option Value) (h : Heap) (L : List Loc) : Prop := v = none ∧ Fr n0 L ∧ (h = h0)
theorem ef17_rm17_74 (m : MethodId)  : entryFrame m #[(.int (1 : Int32)), (.int (3 : Int32))] 2 = (mkF m 0 #[.val (.int 1), .val (.int 3)] []) := by first | (simp [entryFrame, mkF, argsToLocals, Value.category, maxLocals]; done) | rfl
set_option maxRecDepth 65536 in
set_option maxHeartbeats 40000000 in
theorem rm17_74 (l : Launch) (Z : State) (a0 : Array Value) (hw : ∀ d ∈ tables_1, d.before a0 Z = true) (ws : List Jvm.Cond)  (a1c : Addr) (h0 : Heap) (n0 : Nat) (P0 : Sta Z h0 "jdk/internal/util/Preconditions" "SIOOBE_FORMATTER" "Ljava/util/function/BiFunction;" (.ref a1c))      :
    MetFree l Y17 (head1 (Jvm.Cond.code Y17 jdk_42_method_155_code 2 none :: ws) ({ frames := 1, cells := 0, slots := 0, locals := 14 } : Room)) (fun a U => a = #[(.int (1 : Int32)), (.int (3 : Int32))] ∧ Z.Warmed39 U.vm ∧ U.heap = h0) (fun _ _ _ _ _ => True) (fun _ U o U' => ∃ v L, o = .returned v ∧ (Q17_74 Z a1c h0 n0) v U'.heap L ∧ FrameEnd U o U' L 0 0) := by
 refine MetFree.of_bodySF (plainFor_of_name pn_java_lang_String) hisR ?_
 intro p e s m args below meth c s₁ Bd hml0 hP hK
 obtain ⟨rfl, hZ, hh⟩ := hP
 have hx := Bd.exec
 have hby := Bd.bytes
 have hml : c.maxLocals = 2 := hml0
 have hown : s.vm.findClass "java/lang/String" = some m.cls := findClass_of_methodNamed Bd.named
 have hnm := (name_of_methodNamed Bd.named Bd.method).1
 have X0 : Stand p l e ({ frames := 1, cells := 0, slots := 0, locals := 14 } : Room) s m #[(.int (1 : Int32)), (.int (3 : Int32))] below meth c s₁ [] 0 0 := Stand.of_body Bd
 have e0 : s₁.heap = h0 := by rw [← hh, Bd.state]; rfl
 have N0 := Fr.nil n0
 refine GoW.mk ?_
 refine GoW.st (fun t k => castTop (ef17_rm17_74 m ) k) ?_
 show GoW p e below s (Q17_74 Z a1c h0 n0) 0 0 (s₁.setTop (mkF m 0 #[.val (.int 1), .val (.int 3)] []))
 refine GoW.sg (mkF m 1 #[.val (.int 1), .val (.int 3)] [(.int 1)]) (fun t k => XS.iloadN X0.here hx rfl (hb hby d17_0) rfl k) ?_
 refine GoW.sg (mkF m 2 #[.val (.int 1), .val (.int 3)] [(.int 3), (.int 1)]) (fun t k => XS.iloadN X0.here hx rfl (hb hby d17_1) rfl k) ?_
 obtain ⟨T638, X638, e638, st638⟩ := getS (host := "") X0 hx hZ hown (ww hw 88 rfl) Via.refl e0 P0 (g := (mkF m 2 #[.val (.int 1), .val (.int 3)] [(.int 3), (.int 1)])) rfl (hb hby d17_2)
 refine GoW.sg (mkF m 5 #[.val (.int 1), .val (.int 3)] [(.ref a1c), (.int 3), (.int 1)]) (fun t k => st638 t k) ?_
 obtain ⟨_, T639, L639, X639, hQ639, st639⟩ := own_callS X638 hx hZ hown (y := Y18) (ww hw 90 rfl) (ww hw 91 rfl) (ww hw 89 rfl) (ww hw 92 rfl) (by decide) 0 (rm18_73 l Z a0 hw [] a1c  h0 n0      ) (by decide) (by decide) e638 (by decide) (by decide) (g := (mkF m 5 #[.val (.int 1), .val (.int 3)] [(.ref a1c), (.int 3), (.int 1)])) rfl (by rw [hml]; rfl) (argsL := [(.int (1 : Int32)), (.int (3 : Int32)), (.ref a1c)]) (rest := []) (lenOf pd_28IILjava2futil2ffunction2fBiFunction3b29I rfl) rfl (by show 2 * 0 + _ ≤ _; exact Nat.le_of_eq rfl) (hb hby d17_5)
 obtain ⟨rfl, N639q, e639⟩ := hQ639
 have N639 := Fr.app N0 N639q
 refine GoW.sg (mkF m 8 #[.val (.int 1), .val (.int 3)] [(.int 1)]) (fun t k => st639 t k) ?_
 refine GoW.sg (mkF m 9 #[.val (.int 1), .val (.int 3)] []) (fun t k => XS.pop X639.here hx rfl (hb hby d17_8) rfl rfl k) ?_
 refine GoW.retV X639 hx Bd.returns (hb hby d17_9) Bd.notSynchronized ?_ (by decide) (by decide)
 rw [e639]
 exact ⟨rfl, N639, rfl⟩
def Q16_75 (Z : State) (a1c : Addr) (ka1c : ClassId) (x1c : Int32) (x2c : Int32) (x3c : Int32) (a2c : Addr) (h0 : Heap) (n0 : Nat) (v : Option Value) (h : Heap) (L : List Loc) : Prop := v = some (.int (nar .char (x2c &&& (255 : Int32)).toUInt32.toUInt16.toUInt32.toInt32)) ∧ Fr n0 L ∧ (h = h0)
theorem ef16_rm16_75 (m : MethodId) (a1c : Addr) : entryFrame m #[(.ref a1c), (.int (1 : Int32))] 2 = (mkF m 0 #[.val (.ref a1c), .val (.int 1)] []) := by first | (simp [entryFrame, mkF, argsToLocals, Value.category, maxLocals]; done) | rfl
set_option maxRecDepth 65536 in
set_option maxHeartbeats 40000000 in
theorem rm16_75 (l : Launch) (Z : State) (a0 : Array Value) (hw : ∀ d ∈ tables_1, d.before a0 Z = true) (ws : List Jvm.Cond) (a1c : Addr) (ka1c : ClassId) (x1c : Int32) (x2c : Int32) (x3c : Int32) (a2c : Addr) (h0 : Heap) (n0 : Nat) (P0 : Arv Z h0 a1c ka1c .byte (3 : Int32) [(.int x1c), (.int x2c), (.int x3c)] (.int (0 : Int32))) (P1 : Sta Z h0 "jdk/internal/util/Preconditions" "SIOOBE_FORMATTER" "Ljava/util/function/BiFunction;" (.ref a2c))      :
    MetFree l Y16 (head1 (Jvm.Cond.code Y16 jdk_43_method_2_code 2 (some .char) :: ws) ({ frames := 2, cells := 0, slots := 0, locals := 27 } : Room)) (fun a U => a = #[(.ref a1c), (.int (1 : Int32))] ∧ Z.Warmed39 U.vm ∧ U.heap = h0) (fun _ _ _ _ _ => True) (fun _ U o U' => ∃ v L, o = .returned v ∧ (Q16_75 Z a1c ka1c x1c x2c x3c a2c h0 n0) v U'.heap L ∧ FrameEnd U o U' L 0 0) := by
 refine MetFree.of_bodySF (plainFor_of_name pn_java_lang_StringLatin1) hisR ?_
 intro p e s m args below meth c s₁ Bd hml0 hP hK
 obtain ⟨rfl, hZ, hh⟩ := hP
 have hx := Bd.exec
 have hby := Bd.bytes
 have hml : c.maxLocals = 2 := hml0
 have hown : s.vm.findClass "java/lang/StringLatin1" = some m.cls := findClass_of_methodNamed Bd.named
 have hnm := (name_of_methodNamed Bd.named Bd.method).1
 have X0 : Stand p l e ({ frames := 2, cells := 0, slots := 0, locals := 27 } : Room) s m #[(.ref a1c), (.int (1 : Int32))] below meth c s₁ [] 0 0 := Stand.of_body Bd
 have e0 : s₁.heap = h0 := by rw [← hh, Bd.state]; rfl
 have N0 := Fr.nil n0
 refine GoW.mk ?_
 refine GoW.st (fun t k => castTop (ef16_rm16_75 m a1c) k) ?_
 show GoW p e below s (Q16_75 Z a1c ka1c x1c x2c x3c a2c h0 n0) 0 0 (s₁.setTop (mkF m 0 #[.val (.ref a1c), .val (.int 1)] []))
 refine GoW.sg (mkF m 1 #[.val (.ref a1c), .val (.int 1)] [(.int 1)]) (fun t k => XS.iloadN X0.here hx rfl (hb hby d16_0) rfl k) ?_
 refine GoW.sg (mkF m 2 #[.val (.ref a1c), .val (.int 1)] [(.ref a1c), (.int 1)]) (fun t k => XS.aloadN X0.here hx rfl (hb hby d16_1) rfl rfl k) ?_
 obtain ⟨cl642, Ar642, q642, Sz642, Nn642, Hh642, Gg642⟩ := id P0
 have st642 := X0.arraylength hx (hq_ e0 Ar642.1) (State.isArrayOf_alike hZ.alike Ar642.2.1) (g := (mkF m 2 #[.val (.ref a1c), .val (.int 1)] [(.ref a1c), (.int 1)])) rfl rfl (hb hby d16_2)
 rw [len_of Sz642 Nn642] at st642
 refine GoW.sg (mkF m 3 #[.val (.ref a1c), .val (.int 1)] [(.int 3), (.int 1)]) (fun t k => st642 t k) ?_
 obtain ⟨_, T645, L645, X645, hQ645, st645⟩ := own_callS X0 hx hZ hown (y := Y17) (ww hw 85 rfl) (ww hw 86 rfl) (ww hw 7 rfl) (ww hw 87 rfl) (by decide) 0 (rm17_74 l Z a0 hw []  a2c h0 n0  P1    ) (by decide) (by decide) e0 (by decide) (by decide) (g := (mkF m 3 #[.val (.ref a1c), .val (.int 1)] [(.int 3), (.int 1)])) rfl (by rw [hml]; rfl) (argsL := [(.int (1 : Int32)), (.int (3 : Int32))]) (rest := []) (lenOf pd_28II29V rfl) rfl (by show 2 * 0 + _ ≤ _; exact Nat.le_of_eq rfl) (hb hby d16_3)
 obtain ⟨rfl, N645q, e645⟩ := hQ645
 have N645 := Fr.app N0 N645q
 refine GoW.sg (mkF m 6 #[.val (.ref a1c), .val (.int 1)] []) (fun t k => st645 t k) ?_
 refine GoW.sg (mkF m 7 #[.val (.ref a1c), .val (.int 1)] [(.ref a1c)]) (fun t k => XS.aloadN X645.here hx rfl (hb hby d16_6) rfl rfl k) ?_
 refine GoW.sg (mkF m 8 #[.val (.ref a1c), .val (.int 1)] [(.int 1), (.ref a1c)]) (fun t k => XS.iloadN X645.here hx rfl (hb hby d16_7) rfl k) ?_
 obtain ⟨cl646, Ar646, q646, Sz646, Nn646, Hh646, Gg646⟩ := id P0
 have hin646 : ¬ ((1 : Int32) < 0 ∨ cl646.slots.size ≤ ((1 : Int32)).toNatClampNeg) := inb_of Sz646 ⟨by decide, by decide⟩
 refine GoW.sg (mkF m 9 #[.val (.ref a1c), .val (.int 1)] [(.int x2c)]) (fun t k => X645.baloadBytes hx (j := (1 : Int32)) (v := (.int x2c)) (hq_ e645 Ar646.1) (State.isArrayOf_alike hZ.alike Ar646.2.1) Ar646.2.2 hin646 (Hh646.at hin646 rfl) (g := (mkF m 8 #[.val (.ref a1c), .val (.int 1)] [(.int 1), (.ref a1c)])) rfl rfl (hb hby d16_8) t k) ?_
 refine GoW.sg (mkF m 12 #[.val (.ref a1c), .val (.int 1)] [(.int 255), (.int x2c)]) (fun t k => XS.sipush X645.here hx rfl (hb hby d16_9) k) ?_
 refine GoW.sg (mkF m 13 #[.val (.ref a1c), .val (.int 1)] [(.int (x2c &&& (255 : Int32)))]) (fun t k => XS.iand X645.here hx rfl (hb hby d16_12) rfl k) ?_
 refine GoW.sg (mkF m 14 #[.val (.ref a1c), .val (.int 1)] [(.int (x2c &&& (255 : Int32)).toUInt32.toUInt16.toUInt32.toInt32)]) (fun t k => XS.i2c X645.here hx rfl (hb hby d16_13) rfl k) ?_
 refine GoW.retN X645 hx (t := .char) Bd.returns (by simp) (hb hby d16_14) Bd.notSynchronized ?_ (by decide) (by decide)
 rw [e645]
 exact ⟨rfl, N645, rfl⟩
def Q14_76 (Z : State) (a1c : Addr) (a2c : Addr) (ka2c : ClassId) (x1c : Int32) (x2c : Int32) (x3c : Int32) (x4c : Int32) (a3c : Addr) (h0 : Heap) (n0 : Nat) (v : Option Value) (h : Heap) (L : List Loc) : Prop := v = some (.int (nar .char (nar .char (x2c &&& (255 : Int32)).toUInt32.toUInt16.toUInt32.toInt32))) ∧ Fr n0 L ∧ (h = h0)
theorem ef14_rm14_76 (m : MethodId) (a1c : Addr) : entryFrame m #[(.ref a1c), (.int (1 : Int32))] 2 = (mkF m 0 #[.val (.ref a1c), .val (.int 1)] []) := by first | (simp [entryFrame, mkF, argsToLocals, Value.category, maxLocals]; done) | rfl
set_option maxRecDepth 65536 in
set_option maxHeartbeats 40000000 in
theorem rm14_76 (l : Launch) (Z : State) (a0 : Array Value) (hw : ∀ d ∈ tables_1, d.before a0 Z = true) (ws : List Jvm.Cond) (a1c : Addr) (a2c : Addr) (ka2c : ClassId) (x1c : Int32) (x2c : Int32) (x3c : Int32) (x4c : Int32) (a3c : Addr) (h0 : Heap) (n0 : Nat) (P0 : Exa Z h0 a1c "java/lang/String") (P1 : Fld Z h0 a1c "java/lang/String" "coder" "B" (.int (0 : Int32))) (P2 : Fld Z h0 a1c "java/lang/String" "value" "[B" (.ref a2c)) (P3 : Arv Z h0 a2c ka2c .byte (3 : Int32) [(.int x1c), (.int x2c), (.int x3c)] (.int (0 : Int32))) (P4 : Sta Z h0 "java/lang/String" "COMPACT_STRINGS" "Z" (.int x4c)) (P5 : Sta Z h0 "jdk/internal/util/Preconditions" "SIOOBE_FORMATTER" "Ljava/util/function/BiFunction;" (.ref a3c))   (u0 : ¬ (x4c = (0 : Int32)))   :
    MetFree l Y14 (head1 (Jvm.Cond.code Y14 jdk_42_method_56_code 2 (some .char) :: ws) ({ frames := 3, cells := 0, slots := 0, locals := 40 } : Room)) (fun a U => a = #[(.ref a1c), (.int (1 : Int32))] ∧ Z.Warmed39 U.vm ∧ U.heap = h0) (fun _ _ _ _ _ => True) (fun _ U o U' => ∃ v L, o = .returned v ∧ (Q14_76 Z a1c a2c ka2c x1c x2c x3c x4c a3c h0 n0) v U'.heap L ∧ FrameEnd U o U' L 0 0) := by
 refine MetFree.of_bodySF (plainFor_of_name pn_java_lang_String) hisR ?_
 intro p e s m args below meth c s₁ Bd hml0 hP hK
 obtain ⟨rfl, hZ, hh⟩ := hP
 have hx := Bd.exec
 have hby := Bd.bytes
 have hml : c.maxLocals = 2 := hml0
 have hown : s.vm.findClass "java/lang/String" = some m.cls := findClass_of_methodNamed Bd.named
 have hnm := (name_of_methodNamed Bd.named Bd.method).1
 have X0 : Stand p l e ({ frames := 3, cells := 0, slots := 0, locals := 40 } : Room) s m #[(.ref a1c), (.int (1 : Int32))] below meth c s₁ [] 0 0 := Stand.of_body Bd
 have e0 : s₁.heap = h0 := by rw [← hh, Bd.state]; rfl
 have N0 := Fr.nil n0
 refine GoW.mk ?_
 refine GoW.st (fun t k => castTop (ef14_rm14_76 m a1c) k) ?_
 show GoW p e below s (Q14_76 Z a1c a2c ka2c x1c x2c x3c x4c a3c h0 n0) 0 0 (s₁.setTop (mkF m 0 #[.val (.ref a1c), .val (.int 1)] []))
 refine GoW.sg (mkF m 1 #[.val (.ref a1c), .val (.int 1)] [(.ref a1c)]) (fun t k => XS.aloadN X0.here hx rfl (hb hby d14_0) rfl rfl k) ?_
 obtain ⟨cq648, kq648, q648a, q648b, q648c⟩ := isOf hZ e0 P0
 obtain ⟨_, _, ⟨T648, L648, k648, n648⟩, -, X648, ⟨Lc648, hQ648, l648, y648, z648⟩, st648⟩ := X0.virtualBack hx (y := Y15) (z := Y15) hown (mvT hZ (ww hw 76 rfl)) (mvT hZ (ww hw 77 rfl)) (notFace_of_selects (args := #[]) (mvT hZ (ww hw 79 rfl))) (mvT hZ (ww hw 79 rfl)) (mvT hZ (ww hw 78 rfl)) (by decide) (backOf (W := 0) (rm15_13 l Z a0 hw [] a1c x4c h0 n0  P1 P4   u0 ) hZ (ww hw 80 rfl) (ww hw 7 rfl) (by decide) (by decide)) q648a q648c (g := (mkF m 1 #[.val (.ref a1c), .val (.int 1)] [(.ref a1c)])) rfl (by rw [hml]; rfl) (Steps.refl _) (argsL := []) (rest := []) (lenOf pd_2829Z rfl) rfl (by show 2 * 0 + _ ≤ _; exact Nat.le_of_eq rfl) (hb hby d14_1) (fun _ _ => ⟨rfl, e0, (by decide : 0 + 0 ≤ _), (by decide : 0 + 0 ≤ _)⟩)
 dsimp only [Pt.U, Pt.locs, Pt.cells, Pt.slots] at X648 l648 y648 z648 st648 hQ648
 subst l648 y648 z648
 obtain ⟨rfl, N648q, e648⟩ := hQ648
 have N648 := Fr.app N0 N648q
 refine GoW.sg (mkF m 4 #[.val (.ref a1c), .val (.int 1)] [(.int 1)]) (fun t k => st648.trans k) ?_
 refine GoW.sg (mkF m 7 #[.val (.ref a1c), .val (.int 1)] []) (fun t k => XS.ifNo X648.here hx rfl (hb hby d14_4) rfl (by decide) k) ?_
 refine GoW.sg (mkF m 8 #[.val (.ref a1c), .val (.int 1)] [(.ref a1c)]) (fun t k => XS.aloadN X648.here hx rfl (hb hby d14_7) rfl rfl k) ?_
 obtain ⟨T649, X649, e649, st649⟩ := getF X648 hx hZ hown (host := "") (Or.inl (ww hw 33 rfl)) Via.refl e648 P2 (g := (mkF m 8 #[.val (.ref a1c), .val (.int 1)] [(.ref a1c)])) rfl rfl (hb hby d14_8)
 refine GoW.sg (mkF m 11 #[.val (.ref a1c), .val (.int 1)] [(.ref a2c)]) (fun t k => st649 t k) ?_
 refine GoW.sg (mkF m 12 #[.val (.ref a1c), .val (.int 1)] [(.int 1), (.ref a2c)]) (fun t k => XS.iloadN X649.here hx rfl (hb hby d14_11) rfl k) ?_
 obtain ⟨_, T650, L650, X650, hQ650, st650⟩ := own_callS X649 hx hZ hown (y := Y16) (ww hw 81 rfl) (ww hw 82 rfl) (ww hw 83 rfl) (ww hw 84 rfl) (by decide) 0 (rm16_75 l Z a0 hw [] a2c ka2c x1c x2c x3c a3c h0 n0  P3 P5    ) (by decide) (by decide) e649 (by decide) (by decide) (g := (mkF m 12 #[.val (.ref a1c), .val (.int 1)] [(.int 1), (.ref a2c)])) rfl (by rw [hml]; rfl) (argsL := [(.ref a2c), (.int (1 : Int32))]) (rest := []) (lenOf pd_285bBI29C rfl) rfl (by show 2 * 0 + _ ≤ _; exact Nat.le_of_eq rfl) (hb hby d14_12)
 obtain ⟨rfl, N650q, e650⟩ := hQ650
 have N650 := Fr.app N648 N650q
 refine GoW.sg (mkF m 15 #[.val (.ref a1c), .val (.int 1)] [(.int (nar .char (x2c &&& (255 : Int32)).toUInt32.toUInt16.toUInt32.toInt32))]) (fun t k => st650 t k) ?_
 refine GoW.retN X650 hx (t := .char) Bd.returns (by simp) (hb hby d14_15) Bd.notSynchronized ?_ (by decide) (by decide)
 rw [e650]
 exact ⟨rfl, N650, rfl⟩
def Q18_77 (Z : State) (a1c : Addr) (h0 : Heap) (n0 : Nat) (v : Option Value) (h : Heap) (L : List Loc) : Prop := v = some (.int (2 : Int32)) ∧ Fr n0 L ∧ (h = h0)
theorem ef18_rm18_77 (m : MethodId) (a1c : Addr) : entryFrame m #[(.int (2 : Int32)), (.int (3 : Int32)), (.ref a1c)] 3 = (mkF m 0 #[.val (.int 2), .val (.int 3), .val (.ref a1c)] []) := by first | (simp [entryFrame, mkF, argsToLocals, Value.category, maxLocals]; done) | rfl
set_option maxRecDepth 65536 in
set_option maxHeartbeats 40000000 in
theorem rm18_77 (l : Launch) (Z : State) (a0 : Array Value) (hw : ∀ d ∈ tables_1, d.before a0 Z = true) (ws : List Jvm.Cond) (a1c : Addr)  (h0 : Heap) (n0 : Nat)       :
    MetFree l Y18 (head1 (Jvm.Cond.code Y18 jdk_41_method_11_code 3 (some .int) :: ws) ({ frames := 0, cells := 0, slots := 0, locals := 0 } : Room)) (fun a U => a = #[(.int (2 : Int32)), (.int (3 : Int32)), (.ref a1c)] ∧ Z.Warmed39 U.vm ∧ U.heap = h0) (fun _ _ _ _ _ => True) (fun _ U o U' => ∃ v L, o = .returned v ∧ (Q18_77 Z a1c h0 n0) v U'.heap L ∧ FrameEnd U o U' L 0 0) := by
 refine MetFree.of_bodySF (plainFor_of_name pn_jdk_internal_util_Preconditions) hisR ?_
 intro p e s m args below meth c s₁ Bd hml0 hP hK
 obtain ⟨rfl, hZ, hh⟩ := hP
 have hx := Bd.exec
 have hby := Bd.bytes
 have hml : c.maxLocals = 3 := hml0
 have hown : s.vm.findClass "jdk/internal/util/Preconditions" = some m.cls := findClass_of_methodNamed Bd.named
 have hnm := (name_of_methodNamed Bd.named Bd.method).1
 have X0 : Stand p l e ({ frames := 0, cells := 0, slots := 0, locals := 0 } : Room) s m #[(.int (2 : Int32)), (.int (3 : Int32)), (.ref a1c)] below meth c s₁ [] 0 0 := Stand.of_body Bd
 have e0 : s₁.heap = h0 := by rw [← hh, Bd.state]; rfl
 have N0 := Fr.nil n0
 refine GoW.mk ?_
 refine GoW.st (fun t k => castTop (ef18_rm18_77 m a1c) k) ?_
 show GoW p e below s (Q18_77 Z a1c h0 n0) 0 0 (s₁.setTop (mkF m 0 (Sh21 2 3 a1c) []))
 refine GoW.sg (mkF m 1 (Sh21 2 3 a1c) [(.int 2)]) (fun t k => XS.iloadN X0.here hx rfl (hb hby d18_0) rfl k) ?_
 refine GoW.sg (mkF m 4 (Sh21 2 3 a1c) []) (fun t k => XS.ifNo X0.here hx rfl (hb hby d18_1) rfl (by decide) k) ?_
 refine GoW.sg (mkF m 5 (Sh21 2 3 a1c) [(.int 2)]) (fun t k => XS.iloadN X0.here hx rfl (hb hby d18_4) rfl k) ?_
 refine GoW.sg (mkF m 6 (Sh21 2 3 a1c) [(.int 3), (.int 2)]) (fun t k => XS.iloadN X0.here hx rfl (hb hby d18_5) rfl k) ?_
 refine GoW.sg (mkF m 16 (Sh21 2 3 a1c) []) (fun t k => XS.icmpYes X0.here hx rfl (pc0 := 6) (pc' := 16) rfl (hb hby d18_6) rfl (by decide) (by decide) (by decide) k) ?_
 refine GoW.sg (mkF m 17 (Sh21 2 3 a1c) [(.int 2)]) (fun t k => XS.iloadN X0.here hx rfl (hb hby d18_16) rfl k) ?_
 refine GoW.retI X0 hx Bd.returns (hb hby d18_17) Bd.notSynchronized ?_ (by decide) (by decide)
 rw [e0]
 exact ⟨rfl, N0, rfl⟩
def Q17_78 (Z : State) (a1c : Addr) (h0 : Heap) (n0 : Nat) (v : Option Value) (h : Heap) (L : List Loc) : Prop := v = none ∧ Fr n0 L ∧ (h = h0)
theorem ef17_rm17_78 (m : MethodId)  : entryFrame m #[(.int (2 : Int32)), (.int (3 : Int32))] 2 = (mkF m 0 #[.val (.int 2), .val (.int 3)] []) := by first | (simp [entryFrame, mkF, argsToLocals, Value.category, maxLocals]; done) | rfl
set_option maxRecDepth 65536 in
set_option maxHeartbeats 40000000 in
theorem rm17_78 (l : Launch) (Z : State) (a0 : Array Value) (hw : ∀ d ∈ tables_1, d.before a0 Z = true) (ws : List Jvm.Cond)  (a1c : Addr) (h0 : Heap) (n0 : Nat) (P0 : Sta Z h0 "jdk/internal/util/Preconditions" "SIOOBE_FORMATTER" "Ljava/util/function/BiFunction;" (.ref a1c))      :
    MetFree l Y17 (head1 (Jvm.Cond.code Y17 jdk_42_method_155_code 2 none :: ws) ({ frames := 1, cells := 0, slots := 0, locals := 14 } : Room)) (fun a U => a = #[(.int (2 : Int32)), (.int (3 : Int32))] ∧ Z.Warmed39 U.vm ∧ U.heap = h0) (fun _ _ _ _ _ => True) (fun _ U o U' => ∃ v L, o = .returned v ∧ (Q17_78 Z a1c h0 n0) v U'.heap L ∧ FrameEnd U o U' L 0 0) := by
 refine MetFree.of_bodySF (plainFor_of_name pn_java_lang_String) hisR ?_
 intro p e s m args below meth c s₁ Bd hml0 hP hK
 obtain ⟨rfl, hZ, hh⟩ := hP
 have hx := Bd.exec
 have hby := Bd.bytes
 have hml : c.maxLocals = 2 := hml0
 have hown : s.vm.findClass "java/lang/String" = some m.cls := findClass_of_methodNamed Bd.named
 have hnm := (name_of_methodNamed Bd.named Bd.method).1
 have X0 : Stand p l e ({ frames := 1, cells := 0, slots := 0, locals := 14 } : Room) s m #[(.int (2 : Int32)), (.int (3 : Int32))] below meth c s₁ [] 0 0 := Stand.of_body Bd
 have e0 : s₁.heap = h0 := by rw [← hh, Bd.state]; rfl
 have N0 := Fr.nil n0
 refine GoW.mk ?_
 refine GoW.st (fun t k => castTop (ef17_rm17_78 m ) k) ?_
 show GoW p e below s (Q17_78 Z a1c h0 n0) 0 0 (s₁.setTop (mkF m 0 #[.val (.int 2), .val (.int 3)] []))
 refine GoW.sg (mkF m 1 #[.val (.int 2), .val (.int 3)] [(.int 2)]) (fun t k => XS.iloadN X0.here hx rfl (hb hby d17_0) rfl k) ?_
 refine GoW.sg (mkF m 2 #[.val (.int 2), .val (.int 3)] [(.int 3), (.int 2)]) (fun t k => XS.iloadN X0.here hx rfl (hb hby d17_1) rfl k) ?_
 obtain ⟨T657, X657, e657, st657⟩ := getS (host := "") X0 hx hZ hown (ww hw 88 rfl) Via.refl e0 P0 (g := (mkF m 2 #[.val (.int 2), .val (.int 3)] [(.int 3), (.int 2)])) rfl (hb hby d17_2)
 refine GoW.sg (mkF m 5 #[.val (.int 2), .val (.int 3)] [(.ref a1c), (.int 3), (.int 2)]) (fun t k => st657 t k) ?_
 obtain ⟨_, T658, L658, X658, hQ658, st658⟩ := own_callS X657 hx hZ hown (y := Y18) (ww hw 90 rfl) (ww hw 91 rfl) (ww hw 89 rfl) (ww hw 92 rfl) (by decide) 0 (rm18_77 l Z a0 hw [] a1c  h0 n0      ) (by decide) (by decide) e657 (by decide) (by decide) (g := (mkF m 5 #[.val (.int 2), .val (.int 3)] [(.ref a1c), (.int 3), (.int 2)])) rfl (by rw [hml]; rfl) (argsL := [(.int (2 : Int32)), (.int (3 : Int32)), (.ref a1c)]) (rest := []) (lenOf pd_28IILjava2futil2ffunction2fBiFunction3b29I rfl) rfl (by show 2 * 0 + _ ≤ _; exact Nat.le_of_eq rfl) (hb hby d17_5)
 obtain ⟨rfl, N658q, e658⟩ := hQ658
 have N658 := Fr.app N0 N658q
 refine GoW.sg (mkF m 8 #[.val (.int 2), .val (.int 3)] [(.int 2)]) (fun t k => st658 t k) ?_
 refine GoW.sg (mkF m 9 #[.val (.int 2), .val (.int 3)] []) (fun t k => XS.pop X658.here hx rfl (hb hby d17_8) rfl rfl k) ?_
 refine GoW.retV X658 hx Bd.returns (hb hby d17_9) Bd.notSynchronized ?_ (by decide) (by decide)
 rw [e658]
 exact ⟨rfl, N658, rfl⟩
def Q16_79 (Z : State) (a1c : Addr) (ka1c : ClassId) (x1c : Int32) (x2c : Int32) (x3c : Int32) (a2c : Addr) (h0 : Heap) (n0 : Nat) (v : Option Value) (h : Heap) (L : List Loc) : Prop := v = some (.int (nar .char (x3c &&& (255 : Int32)).toUInt32.toUInt16.toUInt32.toInt32)) ∧ Fr n0 L ∧ (h = h0)
theorem ef16_rm16_79 (m : MethodId) (a1c : Addr) : entryFrame m #[(.ref a1c), (.int (2 : Int32))] 2 = (mkF m 0 #[.val (.ref a1c), .val (.int 2)] []) := by first | (simp [entryFrame, mkF, argsToLocals, Value.category, maxLocals]; done) | rfl
set_option maxRecDepth 65536 in
set_option maxHeartbeats 40000000 in
theorem rm16_79 (l : Launch) (Z : State) (a0 : Array Value) (hw : ∀ d ∈ tables_1, d.before a0 Z = true) (ws : List Jvm.Cond) (a1c : Addr) (ka1c : ClassId) (x1c : Int32) (x2c : Int32) (x3c : Int32) (a2c : Addr) (h0 : Heap) (n0 : Nat) (P0 : Arv Z h0 a1c ka1c .byte (3 : Int32) [(.int x1c), (.int x2c), (.int x3c)] (.int (0 : Int32))) (P1 : Sta Z h0 "jdk/internal/util/Preconditions" "SIOOBE_FORMATTER" "Ljava/util/function/BiFunction;" (.ref a2c))      :
    MetFree l Y16 (head1 (Jvm.Cond.code Y16 jdk_43_method_2_code 2 (some .char) :: ws) ({ frames := 2, cells := 0, slots := 0, locals := 27 } : Room)) (fun a U => a = #[(.ref a1c), (.int (2 : Int32))] ∧ Z.Warmed39 U.vm ∧ U.heap = h0) (fun _ _ _ _ _ => True) (fun _ U o U' => ∃ v L, o = .returned v ∧ (Q16_79 Z a1c ka1c x1c x2c x3c a2c h0 n0) v U'.heap L ∧ FrameEnd U o U' L 0 0) := by
 refine MetFree.of_bodySF (plainFor_of_name pn_java_lang_StringLatin1) hisR ?_
 intro p e s m args below meth c s₁ Bd hml0 hP hK
 obtain ⟨rfl, hZ, hh⟩ := hP
 have hx := Bd.exec
 have hby := Bd.bytes
 have hml : c.maxLocals = 2 := hml0
 have hown : s.vm.findClass "java/lang/StringLatin1" = some m.cls := findClass_of_methodNamed Bd.named
 have hnm := (name_of_methodNamed Bd.named Bd.method).1
 have X0 : Stand p l e ({ frames := 2, cells := 0, slots := 0, locals := 27 } : Room) s m #[(.ref a1c), (.int (2 : Int32))] below meth c s₁ [] 0 0 := Stand.of_body Bd
 have e0 : s₁.heap = h0 := by rw [← hh, Bd.state]; rfl
 have N0 := Fr.nil n0
 refine GoW.mk ?_
 refine GoW.st (fun t k => castTop (ef16_rm16_79 m a1c) k) ?_
 show GoW p e below s (Q16_79 Z a1c ka1c x1c x2c x3c a2c h0 n0) 0 0 (s₁.setTop (mkF m 0 #[.val (.ref a1c), .val (.int 2)] []))
 refine GoW.sg (mkF m 1 #[.val (.ref a1c), .val (.int 2)] [(.int 2)]) (fun t k => XS.iloadN X0.here hx rfl (hb hby d16_0) rfl k) ?_
 refine GoW.sg (mkF m 2 #[.val (.ref a1c), .val (.int 2)] [(.ref a1c), (.int 2)]) (fun t k => XS.aloadN X0.here hx rfl (hb hby d16_1) rfl rfl k) ?_
 obtain ⟨cl661, Ar661, q661, Sz661, Nn661, Hh661, Gg661⟩ := id P0
 have st661 := X0.arraylength hx (hq_ e0 Ar661.1) (State.isArrayOf_alike hZ.alike Ar661.2.1) (g := (mkF m 2 #[.val (.ref a1c), .val (.int 2)] [(.ref a1c), (.int 2)])) rfl rfl (hb hby d16_2)
 rw [len_of Sz661 Nn661] at st661
 refine GoW.sg (mkF m 3 #[.val (.ref a1c), .val (.int 2)] [(.int 3), (.int 2)]) (fun t k => st661 t k) ?_
 obtain ⟨_, T664, L664, X664, hQ664, st664⟩ := own_callS X0 hx hZ hown (y := Y17) (ww hw 85 rfl) (ww hw 86 rfl) (ww hw 7 rfl) (ww hw 87 rfl) (by decide) 0 (rm17_78 l Z a0 hw []  a2c h0 n0  P1    ) (by decide) (by decide) e0 (by decide) (by decide) (g := (mkF m 3 #[.val (.ref a1c), .val (.int 2)] [(.int 3), (.int 2)])) rfl (by rw [hml]; rfl) (argsL := [(.int (2 : Int32)), (.int (3 : Int32))]) (rest := []) (lenOf pd_28II29V rfl) rfl (by show 2 * 0 + _ ≤ _; exact Nat.le_of_eq rfl) (hb hby d16_3)
 obtain ⟨rfl, N664q, e664⟩ := hQ664
 have N664 := Fr.app N0 N664q
 refine GoW.sg (mkF m 6 #[.val (.ref a1c), .val (.int 2)] []) (fun t k => st664 t k) ?_
 refine GoW.sg (mkF m 7 #[.val (.ref a1c), .val (.int 2)] [(.ref a1c)]) (fun t k => XS.aloadN X664.here hx rfl (hb hby d16_6) rfl rfl k) ?_
 refine GoW.sg (mkF m 8 #[.val (.ref a1c), .val (.int 2)] [(.int 2), (.ref a1c)]) (fun t k => XS.iloadN X664.here hx rfl (hb hby d16_7) rfl k) ?_
 obtain ⟨cl665, Ar665, q665, Sz665, Nn665, Hh665, Gg665⟩ := id P0
 have hin665 : ¬ ((2 : Int32) < 0 ∨ cl665.slots.size ≤ ((2 : Int32)).toNatClampNeg) := inb_of Sz665 ⟨by decide, by decide⟩
 refine GoW.sg (mkF m 9 #[.val (.ref a1c), .val (.int 2)] [(.int x3c)]) (fun t k => X664.baloadBytes hx (j := (2 : Int32)) (v := (.int x3c)) (hq_ e664 Ar665.1) (State.isArrayOf_alike hZ.alike Ar665.2.1) Ar665.2.2 hin665 (Hh665.at hin665 rfl) (g := (mkF m 8 #[.val (.ref a1c), .val (.int 2)] [(.int 2), (.ref a1c)])) rfl rfl (hb hby d16_8) t k) ?_
 refine GoW.sg (mkF m 12 #[.val (.ref a1c), .val (.int 2)] [(.int 255), (.int x3c)]) (fun t k => XS.sipush X664.here hx rfl (hb hby d16_9) k) ?_
 refine GoW.sg (mkF m 13 #[.val (.ref a1c), .val (.int 2)] [(.int (x3c &&& (255 : Int32)))]) (fun t k => XS.iand X664.here hx rfl (hb hby d16_12) rfl k) ?_
 refine GoW.sg (mkF m 14 #[.val (.ref a1c), .val (.int 2)] [(.int (x3c &&& (255 : Int32)).toUInt32.toUInt16.toUInt32.toInt32)]) (fun t k => XS.i2c X664.here hx rfl (hb hby d16_13) rfl k) ?_
 refine GoW.retN X664 hx (t := .char) Bd.returns (by simp) (hb hby d16_14) Bd.notSynchronized ?_ (by decide) (by decide)
 rw [e664]
 exact ⟨rfl, N664, rfl⟩
def Q14_80 (Z : State) (a1c : Addr) (a2c : Addr) (ka2c : ClassId) (x1c : Int32) (x2c : Int32) (x3c : Int32) (x4c : Int32) (a3c : Addr) (h0 : Heap) (n0 : Nat) (v : Option Value) (h : Heap) (L : List Loc) : Prop := v = some (.int (nar .char (nar .char (x3c &&& (255 : Int32)).toUInt32.toUInt16.toUInt32.toInt32))) ∧ Fr n0 L ∧ (h = h0)
theorem ef14_rm14_80 (m : MethodId) (a1c : Addr) : entryFrame m #[(.ref a1c), (.int (2 : Int32))] 2 = (mkF m 0 #[.val (.ref a1c), .val (.int 2)] []) := by first | (simp [entryFrame, mkF, argsToLocals, Value.category, maxLocals]; done) | rfl
set_option maxRecDepth 65536 in
set_option maxHeartbeats 40000000 in
theorem rm14_80 (l : Launch) (Z : State) (a0 : Array Value) (hw : ∀ d ∈ tables_1, d.before a0 Z = true) (ws : List Jvm.Cond) (a1c : Addr) (a2c : Addr) (ka2c : ClassId) (x1c : Int32) (x2c : Int32) (x3c : Int32) (x4c : Int32) (a3c : Addr) (h0 : Heap) (n0 : Nat) (P0 : Exa Z h0 a1c "java/lang/String") (P1 : Fld Z h0 a1c "java/lang/String" "coder" "B" (.int (0 : Int32))) (P2 : Fld Z h0 a1c "java/lang/String" "value" "[B" (.ref a2c)) (P3 : Arv Z h0 a2c ka2c .byte (3 : Int32) [(.int x1c), (.int x2c), (.int x3c)] (.int (0 : Int32))) (P4 : Sta Z h0 "java/lang/String" "COMPACT_STRINGS" "Z" (.int x4c)) (P5 : Sta Z h0 "jdk/internal/util/Preconditions" "SIOOBE_FORMATTER" "Ljava/util/function/BiFunction;" (.ref a3c))   (u0 : ¬ (x4c = (0 : Int32)))   :
    MetFree l Y14 (head1 (Jvm.Cond.code Y14 jdk_42_method_56_code 2 (some .char) :: ws) ({ frames := 3, cells := 0, slots := 0, locals := 40 } : Room)) (fun a U => a = #[(.ref a1c), (.int (2 : Int32))] ∧ Z.Warmed39 U.vm ∧ U.heap = h0) (fun _ _ _ _ _ => True) (fun _ U o U' => ∃ v L, o = .returned v ∧ (Q14_80 Z a1c a2c ka2c x1c x2c x3c x4c a3c h0 n0) v U'.heap L ∧ FrameEnd U o U' L 0 0) := by
 refine MetFree.of_bodySF (plainFor_of_name pn_java_lang_String) hisR ?_
 intro p e s m args below meth c s₁ Bd hml0 hP hK
 obtain ⟨rfl, hZ, hh⟩ := hP
 have hx := Bd.exec
 have hby := Bd.bytes
 have hml : c.maxLocals = 2 := hml0
 have hown : s.vm.findClass "java/lang/String" = some m.cls := findClass_of_methodNamed Bd.named
 have hnm := (name_of_methodNamed Bd.named Bd.method).1
 have X0 : Stand p l e ({ frames := 3, cells := 0, slots := 0, locals := 40 } : Room) s m #[(.ref a1c), (.int (2 : Int32))] below meth c s₁ [] 0 0 := Stand.of_body Bd
 have e0 : s₁.heap = h0 := by rw [← hh, Bd.state]; rfl
 have N0 := Fr.nil n0
 refine GoW.mk ?_
 refine GoW.st (fun t k => castTop (ef14_rm14_80 m a1c) k) ?_
 show GoW p e below s (Q14_80 Z a1c a2c ka2c x1c x2c x3c x4c a3c h0 n0) 0 0 (s₁.setTop (mkF m 0 #[.val (.ref a1c), .val (.int 2)] []))
 refine GoW.sg (mkF m 1 #[.val (.ref a1c), .val (.int 2)] [(.ref a1c)]) (fun t k => XS.aloadN X0.here hx rfl (hb hby d14_0) rfl rfl k) ?_
 obtain ⟨cq667, kq667, q667a, q667b, q667c⟩ := isOf hZ e0 P0
 obtain ⟨_, _, ⟨T667, L667, k667, n667⟩, -, X667, ⟨Lc667, hQ667, l667, y667, z667⟩, st667⟩ := X0.virtualBack hx (y := Y15) (z := Y15) hown (mvT hZ (ww hw 76 rfl)) (mvT hZ (ww hw 77 rfl)) (notFace_of_selects (args := #[]) (mvT hZ (ww hw 79 rfl))) (mvT hZ (ww hw 79 rfl)) (mvT hZ (ww hw 78 rfl)) (by decide) (backOf (W := 0) (rm15_13 l Z a0 hw [] a1c x4c h0 n0  P1 P4   u0 ) hZ (ww hw 80 rfl) (ww hw 7 rfl) (by decide) (by decide)) q667a q667c (g := (mkF m 1 #[.val (.ref a1c), .val (.int 2)] [(.ref a1c)])) rfl (by rw [hml]; rfl) (Steps.refl _) (argsL := []) (rest := []) (lenOf pd_2829Z rfl) rfl (by show 2 * 0 + _ ≤ _; exact Nat.le_of_eq rfl) (hb hby d14_1) (fun _ _ => ⟨rfl, e0, (by decide : 0 + 0 ≤ _), (by decide : 0 + 0 ≤ _)⟩)
 dsimp only [Pt.U, Pt.locs, Pt.cells, Pt.slots] at X667 l667 y667 z667 st667 hQ667
 subst l667 y667 z667
 obtain ⟨rfl, N667q, e667⟩ := hQ667
 have N667 := Fr.app N0 N667q
 refine GoW.sg (mkF m 4 #[.val (.ref a1c), .val (.int 2)] [(.int 1)]) (fun t k => st667.trans k) ?_
 refine GoW.sg (mkF m 7 #[.val (.ref a1c), .val (.int 2)] []) (fun t k => XS.ifNo X667.here hx rfl (hb hby d14_4) rfl (by decide) k) ?_
 refine GoW.sg (mkF m 8 #[.val (.ref a1c), .val (.int 2)] [(.ref a1c)]) (fun t k => XS.aloadN X667.here hx rfl (hb hby d14_7) rfl rfl k) ?_
 obtain ⟨T668, X668, e668, st668⟩ := getF X667 hx hZ hown (host := "") (Or.inl (ww hw 33 rfl)) Via.refl e667 P2 (g := (mkF m 8 #[.val (.ref a1c), .val (.int 2)] [(.ref a1c)])) rfl rfl (hb hby d14_8)
 refine GoW.sg (mkF m 11 #[.val (.ref a1c), .val (.int 2)] [(.ref a2c)]) (fun t k => st668 t k) ?_
 refine GoW.sg (mkF m 12 #[.val (.ref a1c), .val (.int 2)] [(.int 2), (.ref a2c)]) (fun t k => XS.iloadN X668.here hx rfl (hb hby d14_11) rfl k) ?_
 obtain ⟨_, T669, L669, X669, hQ669, st669⟩ := own_callS X668 hx hZ hown (y := Y16) (ww hw 81 rfl) (ww hw 82 rfl) (ww hw 83 rfl) (ww hw 84 rfl) (by decide) 0 (rm16_79 l Z a0 hw [] a2c ka2c x1c x2c x3c a3c h0 n0  P3 P5    ) (by decide) (by decide) e668 (by decide) (by decide) (g := (mkF m 12 #[.val (.ref a1c), .val (.int 2)] [(.int 2), (.ref a2c)])) rfl (by rw [hml]; rfl) (argsL := [(.ref a2c), (.int (2 : Int32))]) (rest := []) (lenOf pd_285bBI29C rfl) rfl (by show 2 * 0 + _ ≤ _; exact Nat.le_of_eq rfl) (hb hby d14_12)
 obtain ⟨rfl, N669q, e669⟩ := hQ669
 have N669 := Fr.app N667 N669q
 refine GoW.sg (mkF m 15 #[.val (.ref a1c), .val (.int 2)] [(.int (nar .char (x3c &&& (255 : Int32)).toUInt32.toUInt16.toUInt32.toInt32))]) (fun t k => st669 t k) ?_
 refine GoW.retN X669 hx (t := .char) Bd.returns (by simp) (hb hby d14_15) Bd.notSynchronized ?_ (by decide) (by decide)
 rw [e669]
 exact ⟨rfl, N669, rfl⟩
theorem ef0_rm0 (m : MethodId) (q1 : Int32) (q2 : Int32) (q3 : Int32) (q4 : Int32) (q5 : Int32) : entryFrame m #[(.int q1), (.int q2), (.int q3), (.int q4), (.int q5)] maxLocals = (mkF m 0 #[.val (.int q1), .val (.int q2), .val (.int q3), .val (.int q4), .val (.int q5), .unset, .unset, .unset, .unset, .unset, .unset] []) := by first | (simp [entryFrame, mkF, argsToLocals, Value.category, maxLocals]; done) | rfl
set_option maxRecDepth 65536 in
set_option maxHeartbeats 40000000 in
theorem rm0 (l : Launch) (Z : State) (a0 : Array Value) (hw : ∀ d ∈ tables_1, d.before a0 Z = true) (ws : List Jvm.Cond) (q1 : Int32) (q2 : Int32) (q3 : Int32) (q4 : Int32) (q5 : Int32) (cs : Int32) (vf : Value) (h0 : Heap) (n0 : Nat) (Z0 : n0 ≤ h0.size) (PC : Sta Z h0 "java/lang/String" "COMPACT_STRINGS" "Z" (.int cs)) (PF : Sta Z h0 "jdk/internal/util/Preconditions" "SIOOBE_FORMATTER" "Ljava/util/function/BiFunction;" vf) (hvf : vf.isRef = true) (ncs : ¬ (cs = (0 : Int32))) (O0 : Old Z n0 h0) (hc_7 : Jvm.Lit.constHeld Z "java/lang/String" 7) (hcw : Jvm.Lit.compactW.before a0 Z = true) :
    MetFree l x (head1 (Jvm.Cond.code x code maxLocals ret :: ws) room_1) (fun a U => a = #[(.int q1), (.int q2), (.int q3), (.int q4), (.int q5)] ∧ U = Z ∧ U.heap = h0) (fun _ _ _ _ _ => True) (fun _ U o U' => ∃ v L, o = .returned v ∧ (ValQ (.int (1 : Int32)) n0) v U'.heap L ∧ ReturnedEndW U o U' L room_1.cells room_1.slots) := by
 refine MetFree.of_bodySF (plainFor_of_name pn_com_example_relaystack_relaystack_OptionValuePinLaw) hisR ?_
 intro p e s m args below meth c s₁ Bd hml0 hP hK
 obtain ⟨rfl, hU, hh⟩ := hP
 have hZ : Z.Warmed39 s.vm := hU ▸ State.Warmed39.refl _
 have I0 : IB Z s.vm [] := hU ▸ IB.start
 have hS0 : s.Since s.vm 0 := (State.WarmedH.refl s).since 0
 have hx := Bd.exec
 have hby := Bd.bytes
 have hml : c.maxLocals = 11 := hml0
 have hown : s.vm.findClass "com/example/relaystack/relaystack/OptionValuePinLaw" = some m.cls := findClass_of_methodNamed Bd.named
 have hnm := (name_of_methodNamed Bd.named Bd.method).1
 have X0 : Stand p l e room_1 (s.setVm s.vm) m #[(.int q1), (.int q2), (.int q3), (.int q4), (.int q5)] below meth c s₁ [] 0 0 := Stand.of_body Bd
 have e0 : s₁.heap = h0 := by rw [← hh, Bd.state]; rfl
 have N0 := Fr.nil n0
 refine GoV.mk ?_
 refine GoV.st (fun t k => castTop (ef0_rm0 m q1 q2 q3 q4 q5) k) ?_
 show GoV p e below s (ValQ (.int (1 : Int32)) n0) room_1.cells room_1.slots (s₁.setTop (mkF m 0 (Sh5 q1 q2 q3 q4 q5) []))
 refine GoV.sg (mkF m 1 (Sh5 q1 q2 q3 q4 q5) [(.int 1)]) (fun t k => XS.iconst X0.here hx rfl (hb hby at_0) k) ?_
 refine GoV.sg (mkF m 2 (Sh5 q1 q2 q3 q4 q5) [(.int q3), (.int 1)]) (fun t k => XS.iloadN X0.here hx rfl (hb hby at_1) rfl k) ?_
 refine GoV.sg (mkF m 4 (Sh5 q1 q2 q3 q4 q5) [(.int 2147483647), (.int q3), (.int 1)]) (fun t k => X0.ldcInt hx hown (mvT hZ (ww hw 0 rfl)) (g := (mkF m 2 (Sh5 q1 q2 q3 q4 q5) [(.int q3), (.int 1)])) rfl (hb hby at_2) t k) ?_
 refine GoV.sg (mkF m 5 (Sh5 q1 q2 q3 q4 q5) [(.int (q3 &&& (2147483647 : Int32))), (.int 1)]) (fun t k => XS.iand X0.here hx rfl (hb hby at_4) rfl k) ?_
 refine GoV.sg (mkF m 6 (Sh5 q1 q2 q3 q4 q5) [(.int 3), (.int (q3 &&& (2147483647 : Int32))), (.int 1)]) (fun t k => XS.iconst X0.here hx rfl (hb hby at_5) k) ?_
 refine GoV.sg (mkF m 7 (Sh5 q1 q2 q3 q4 q5) [(.int ((q3 &&& (2147483647 : Int32)) % (3 : Int32))), (.int 1)]) (fun t k => iremM X0 hx rfl (hb hby at_6) rfl (by decide) k) ?_
 refine GoV.sg (mkF m 8 (Sh5 q1 q2 q3 q4 q5) [(.int ((1 : Int32) + ((q3 &&& (2147483647 : Int32)) % (3 : Int32))))]) (fun t k => XS.iadd X0.here hx rfl (hb hby at_7) rfl k) ?_
 refine GoV.sg (mkF m 10 (Sh6 q1 q2 q3 q4 q5 ((1 : Int32) + ((q3 &&& (2147483647 : Int32)) % (3 : Int32)))) []) (fun t k => XS.istore X0.here hx rfl (hb hby at_8) rfl (l' := (Sh6 q1 q2 q3 q4 q5 ((1 : Int32) + ((q3 &&& (2147483647 : Int32)) % (3 : Int32))))) rfl k) ?_
 rcases own_mod3 q3 with vv | vv | vv
 ·rw [vv]
  show GoV p e below s (ValQ (.int (1 : Int32)) n0) room_1.cells room_1.slots (s₁.setTop (mkF m 10 (Sh6 q1 q2 q3 q4 q5 1) []))
  refine GoV.sg (mkF m 11 (Sh6 q1 q2 q3 q4 q5 1) [(.int q4)]) (fun t k => XS.iloadN X0.here hx rfl (hb hby at_10) rfl k) ?_
  refine GoV.sg (mkF m 13 (Sh6 q1 q2 q3 q4 q5 1) [(.int 2147483647), (.int q4)]) (fun t k => X0.ldcInt hx hown (mvT hZ (ww hw 0 rfl)) (g := (mkF m 11 (Sh6 q1 q2 q3 q4 q5 1) [(.int q4)])) rfl (hb hby at_11) t k) ?_
  refine GoV.sg (mkF m 14 (Sh6 q1 q2 q3 q4 q5 1) [(.int (q4 &&& (2147483647 : Int32)))]) (fun t k => XS.iand X0.here hx rfl (hb hby at_13) rfl k) ?_
  refine GoV.sg (mkF m 15 (Sh6 q1 q2 q3 q4 q5 1) [(.int 4), (.int (q4 &&& (2147483647 : Int32)))]) (fun t k => XS.iconst X0.here hx rfl (hb hby at_14) k) ?_
  refine GoV.sg (mkF m 16 (Sh6 q1 q2 q3 q4 q5 1) [(.int ((q4 &&& (2147483647 : Int32)) % (4 : Int32)))]) (fun t k => iremM X0 hx rfl (hb hby at_15) rfl (by decide) k) ?_
  refine GoV.sg (mkF m 18 (Sh7 q1 q2 q3 q4 q5 1 ((q4 &&& (2147483647 : Int32)) % (4 : Int32))) []) (fun t k => XS.istore X0.here hx rfl (hb hby at_16) rfl (l' := (Sh7 q1 q2 q3 q4 q5 1 ((q4 &&& (2147483647 : Int32)) % (4 : Int32)))) rfl k) ?_
  refine GoV.sg (mkF m 20 (Sh7 q1 q2 q3 q4 q5 1 ((q4 &&& (2147483647 : Int32)) % (4 : Int32))) [(.int 1)]) (fun t k => XS.iload X0.here hx rfl (hb hby at_18) rfl k) ?_
  refine GoV.sg (mkF m 21 (Sh7 q1 q2 q3 q4 q5 1 ((q4 &&& (2147483647 : Int32)) % (4 : Int32))) [(.int q1), (.int 1)]) (fun t k => XS.iloadN X0.here hx rfl (hb hby at_20) rfl k) ?_
  obtain ⟨_, T72, L72, X72, hQ72, st72⟩ := own_callS X0 hx hZ hown (y := Y1) (ww hw 1 rfl) (ww hw 2 rfl) (ww hw 3 rfl) (ww hw 4 rfl) (by decide) 0 (rm1_6 l Z a0 hw [] q1 cs h0 n0 Z0 PC   ncs ) (by decide) (by decide) e0 (by decide) (by decide) (g := (mkF m 21 (Sh7 q1 q2 q3 q4 q5 1 ((q4 &&& (2147483647 : Int32)) % (4 : Int32))) [(.int q1), (.int 1)])) rfl (by rw [hml]; rfl) (argsL := [(.int (1 : Int32)), (.int q1)]) (rest := []) (lenOf pd_28II29Ljava2flang2fString3b rfl) rfl (by show 2 * 0 + _ ≤ _; exact Nat.le_of_eq rfl) (hb hby at_21)
  obtain ⟨b72_e0, b72_e1, k72_ke1, rfl, N72q, K72, p72_0, p72_1, p72_2, p72_3, hz_b72_e0, hz_b72_e1⟩ := hQ72
  have N72 := Fr.app N0 N72q
  have f72_1 := Nat.le_trans Z0 K72.1
  have f72_2 := O0.keep K72 all0
  have f72_3 := own_staK0 PC K72
  have f72_4 := own_staK0 PF K72
  have f72_5 := Nat.le_trans (Nat.zero_le _) K72.1
  refine GoV.sg (mkF m 24 (Sh7 q1 q2 q3 q4 q5 1 ((q4 &&& (2147483647 : Int32)) % (4 : Int32))) [(.ref b72_e0)]) (fun t k => st72 t k) ?_
  refine GoV.sg (mkF m 26 (Sh15 q1 q2 q3 q4 q5 1 ((q4 &&& (2147483647 : Int32)) % (4 : Int32)) b72_e0) []) (fun t k => XS.astore X72.here hx rfl (hb hby at_24) rfl rfl (l' := (Sh15 q1 q2 q3 q4 q5 1 ((q4 &&& (2147483647 : Int32)) % (4 : Int32)) b72_e0)) rfl k) ?_
  refine GoV.sg (mkF m 28 (Sh15 q1 q2 q3 q4 q5 1 ((q4 &&& (2147483647 : Int32)) % (4 : Int32)) b72_e0) [(.int q5)]) (fun t k => XS.iload X72.here hx rfl (hb hby at_26) rfl k) ?_
  refine GoV.sg (mkF m 29 (Sh15 q1 q2 q3 q4 q5 1 ((q4 &&& (2147483647 : Int32)) % (4 : Int32)) b72_e0) [(.int 1), (.int q5)]) (fun t k => XS.iconst X72.here hx rfl (hb hby at_28) k) ?_
  refine GoV.sg (mkF m 30 (Sh15 q1 q2 q3 q4 q5 1 ((q4 &&& (2147483647 : Int32)) % (4 : Int32)) b72_e0) [(.int (q5 &&& (1 : Int32)))]) (fun t k => XS.iand X72.here hx rfl (hb hby at_29) rfl k) ?_
  by_cases c73 : (q5 &&& (1 : Int32)) = (0 : Int32)
  ·refine GoV.sg (mkF m 37 (Sh15 q1 q2 q3 q4 q5 1 ((q4 &&& (2147483647 : Int32)) % (4 : Int32)) b72_e0) []) (fun t k => XS.ifYes X72.here hx rfl (pc0 := 30) (pc' := 37) rfl (hb hby at_30) rfl ((if0 _ _).trans (teq c73).1) (by decide) (by decide) k) ?_
   rcases own_mod4 q4 with vv | vv | vv | vv
   ·rw [vv]
    show GoV p e below s (ValQ (.int (1 : Int32)) n0) room_1.cells room_1.slots (T72.setTop (mkF m 37 (Sh15 q1 q2 q3 q4 q5 1 0 b72_e0) []))
    refine GoV.sg (mkF m 39 (Sh15 q1 q2 q3 q4 q5 1 0 b72_e0) [(.int 0)]) (fun t k => XS.iload X72.here hx rfl (hb hby at_37) rfl k) ?_
    refine GoV.sg (mkF m 40 (Sh15 q1 q2 q3 q4 q5 1 0 b72_e0) [(.int q2), (.int 0)]) (fun t k => XS.iloadN X72.here hx rfl (hb hby at_39) rfl k) ?_
    obtain ⟨_, T74, L74, X74, hS74, hZ74, hown74, hQ74, st74⟩ := own_callU X72 hx hZ hS0 f72_5 hown (y := Y1) (ww hw 1 rfl) (ww hw 2 rfl) (ww hw 3 rfl) (ww hw 4 rfl) (by decide) 0 (PV := fun vm => IB Z vm []) (rmE0 l Z a0 hw [] q2  T72.heap n0 f72_1      f72_2 hc_7 hcw) (fun vm1 q => own_ibW I0 q.interned_eq) (by decide) (by decide) rfl (by decide) (by decide) (g := (mkF m 40 (Sh15 q1 q2 q3 q4 q5 1 0 b72_e0) [(.int q2), (.int 0)])) rfl (by rw [hml]; rfl) (argsL := [(.int (0 : Int32)), (.int q2)]) (rest := []) (lenOf pd_28II29Ljava2flang2fString3b rfl) rfl (by show 2 * 0 + _ ≤ _; exact Nat.le_of_eq rfl) (hb hby at_40)
    obtain ⟨b74_e0, rfl, N74q, K74⟩ := hQ74
    have N74 := Fr.app N72 N74q
    have f74_6 := Nat.le_trans f72_1 K74.1
    have f74_8 := own_staK0 f72_3 K74
    have f74_9 := own_staK0 f72_4 K74
    have f74_10 := p72_0.keep K74
    have f74_11 := p72_1.keep K74 nin0
    have f74_12 := p72_2.keep K74 nin0
    have f74_13 := p72_3.keep K74 nin0
    refine GoV.sg (mkF m 43 (Sh15 q1 q2 q3 q4 q5 1 0 b72_e0) [(.ref b74_e0)]) (fun t k => st74 t k) ?_
    refine GoV.sg (mkF m 45 (Sh16 q1 q2 q3 q4 q5 1 0 b72_e0 b74_e0) []) (fun t k => XS.astore X74.here hx rfl (hb hby at_43) rfl rfl (l' := (Sh16 q1 q2 q3 q4 q5 1 0 b72_e0 b74_e0)) rfl k) ?_
    obtain ⟨T75, h75, X75, e75, E75, A75, D75, -, st75⟩ := newO X74 hx hZ74 hown74 (ww hw 35 rfl) (ww hw 36 rfl) (ww hw 37 rfl) rfl (g := (mkF m 45 (Sh16 q1 q2 q3 q4 q5 1 0 b72_e0 b74_e0) [])) rfl (hb hby at_45) (by decide) (by decide)
    obtain ⟨b75, g75⟩ : ∃ z, z = T74.heap.size := ⟨_, rfl⟩
    rw [← g75] at A75 D75 st75
    have g_b75 : n0 ≤ b75 := Nat.le_trans f74_6 (Nat.le_of_eq g75.symm)
    have ne_b72_e0_b75 : b72_e0 ≠ b75 := Nat.ne_of_lt (Nat.lt_of_lt_of_eq f74_10.lt g75.symm)
    have ne_b72_e1_b75 : b72_e1 ≠ b75 := Nat.ne_of_lt (Nat.lt_of_lt_of_eq f74_13.lt g75.symm)
    have f75_16 := f74_8.ext E75
    have f75_17 := f74_9.ext E75
    have f75_18 := f74_10.ext E75
    have f75_19 := f74_11.ext E75
    have f75_20 := f74_12.ext E75
    have f75_21 := f74_13.ext E75
    have f75_22 := Nat.le_trans (Nat.le_refl _) E75.1
    have F75name : Fld Z h75 b75 "com/example/relaystack/relaystack/CommandLine$Option" "name" "Ljava/lang/String;" .null := D75 (Or.inr (ww hw 48 rfl)) (ty := (.object "java/lang/String")) (by decide)
    have F75given : Fld Z h75 b75 "com/example/relaystack/relaystack/CommandLine$Option" "given" "Ljava/lang/String;" .null := D75 (Or.inr (ww hw 50 rfl)) (ty := (.object "java/lang/String")) (by decide)
    refine GoV.sg (mkF m 48 (Sh16 q1 q2 q3 q4 q5 1 0 b72_e0 b74_e0) [(.ref b75)]) (fun t k => st75 t k) ?_
    refine GoV.sg (mkF m 49 (Sh16 q1 q2 q3 q4 q5 1 0 b72_e0 b74_e0) [(.ref b75), (.ref b75)]) (fun t k => XS.dup X75.here hx rfl (hb hby at_48) rfl rfl k) ?_
    refine GoV.sg (mkF m 51 (Sh16 q1 q2 q3 q4 q5 1 0 b72_e0 b74_e0) [(.ref b74_e0), (.ref b75), (.ref b75)]) (fun t k => XS.aload X75.here hx rfl (hb hby at_49) rfl rfl k) ?_
    refine GoV.sg (mkF m 53 (Sh16 q1 q2 q3 q4 q5 1 0 b72_e0 b74_e0) [(.ref b72_e0), (.ref b74_e0), (.ref b75), (.ref b75)]) (fun t k => XS.aload X75.here hx rfl (hb hby at_51) rfl rfl k) ?_
    obtain ⟨_, _, ⟨T85, L85, k85, n85⟩, -, X85, ⟨Lc85, hQ85, l85, y85, z85⟩, st85⟩ := X75.specialBack hx (y := Y8) rfl hown74 (mvT hZ74 (ww hw 38 rfl)) (mvT hZ74 (ww hw 39 rfl)) (mvT hZ74 (ww hw 40 rfl)) (by decide) (backOf (W := 1) (rm8_8 l Z a0 hw [] b75 b74_e0 b72_e0  h75 n0  A75 F75given F75name g_b75   ) hZ74 (ww hw 40 rfl) (ww hw 37 rfl) (by decide) (by decide)) (g := (mkF m 53 (Sh16 q1 q2 q3 q4 q5 1 0 b72_e0 b74_e0) [(.ref b72_e0), (.ref b74_e0), (.ref b75), (.ref b75)])) rfl (by rw [hml]; rfl) (Steps.refl _) (a := b75) (argsL := [(.ref b74_e0), (.ref b72_e0)]) (rest := [(.ref b75)]) (lenOf pd_28Ljava2flang2fString3bLjava2flang2fString3b29V rfl) rfl (by show 2 * 0 + _ ≤ _; exact Nat.le_of_eq rfl) (hb hby at_53) (fun _ _ => ⟨rfl, e75, (by decide : 8 + 0 ≤ _), (by decide : 16 + 0 ≤ _)⟩)
    dsimp only [Pt.U, Pt.locs, Pt.cells, Pt.slots] at X85 l85 y85 z85 st85 hQ85
    subst l85 y85 z85
    obtain ⟨rfl, N85q, K85, p85_0, p85_1, p85_2⟩ := hQ85
    have N85 := Fr.app N74 N85q
    have f85_25 := own_staK f75_16 K85 (allS (own_nsE A75) all0)
    have f85_26 := own_staK f75_17 K85 (allS (own_nsE A75) all0)
    have f85_27 := f75_18.keep K85
    have f85_28 := f75_19.keep K85 (ninS ne_b72_e0_b75 nin0)
    have f85_29 := f75_20.keep K85 (ninS ne_b72_e0_b75 nin0)
    have f85_30 := f75_21.keep K85 (ninS ne_b72_e1_b75 nin0)
    have f85_31 := Nat.le_trans f75_22 K85.1
    refine GoV.sg (mkF m 56 (Sh16 q1 q2 q3 q4 q5 1 0 b72_e0 b74_e0) [(.ref b75)]) (fun t k => st85.trans k) ?_
    refine GoV.sg (mkF m 58 (Sh18 q1 q2 q3 q4 q5 1 0 b72_e0 b74_e0 b75) []) (fun t k => XS.astore X85.here hx rfl (hb hby at_56) rfl rfl (l' := (Sh18 q1 q2 q3 q4 q5 1 0 b72_e0 b74_e0 b75)) rfl k) ?_
    refine GoV.sg (mkF m 60 (Sh18 q1 q2 q3 q4 q5 1 0 b72_e0 b74_e0 b75) [(.ref b75)]) (fun t k => XS.aload X85.here hx rfl (hb hby at_58) rfl rfl k) ?_
    obtain ⟨cq100, kq100, q100a, q100b, q100c⟩ := isOf hZ74 rfl p85_0
    obtain ⟨_, _, ⟨T100, L100, k100, n100⟩, -, X100, ⟨Lc100, hQ100, l100, y100, z100⟩, st100⟩ := X85.virtualBack hx (y := Y10) (z := Y10) hown74 (mvT hZ74 (ww hw 51 rfl)) (mvT hZ74 (ww hw 52 rfl)) (notFace_of_selects (args := #[]) (mvT hZ74 (ww hw 54 rfl))) (mvT hZ74 (ww hw 54 rfl)) (mvT hZ74 (ww hw 53 rfl)) (by decide) (backOf (W := 0) (rm10_10 l Z a0 hw [] b75 b72_e0 b72_e1 k72_ke1 (lat8 (chA q1)) T85.heap n0  f85_27 p85_1 f85_29 f85_30    ) hZ74 (ww hw 55 rfl) (ww hw 37 rfl) (by decide) (by decide)) q100a q100c (g := (mkF m 60 (Sh18 q1 q2 q3 q4 q5 1 0 b72_e0 b74_e0 b75) [(.ref b75)])) rfl (by rw [hml]; rfl) (Steps.refl _) (argsL := []) (rest := []) (lenOf pd_2829Ljava2flang2fString3b rfl) rfl (by show 2 * 0 + _ ≤ _; exact Nat.le_of_eq rfl) (hb hby at_60) (fun _ _ => ⟨rfl, rfl, (by decide : 8 + 0 ≤ _), (by decide : 16 + 0 ≤ _)⟩)
    dsimp only [Pt.U, Pt.locs, Pt.cells, Pt.slots] at X100 l100 y100 z100 st100 hQ100
    subst l100 y100 z100
    obtain ⟨rfl, N100q, e100⟩ := hQ100
    have N100 := Fr.app N85 N100q
    refine GoV.sg (mkF m 63 (Sh18 q1 q2 q3 q4 q5 1 0 b72_e0 b74_e0 b75) [(.ref b72_e0)]) (fun t k => st100.trans k) ?_
    refine GoV.sg (mkF m 65 (Sh19 q1 q2 q3 q4 q5 1 0 b72_e0 b74_e0 b75 b72_e0) []) (fun t k => XS.astore X100.here hx rfl (hb hby at_63) rfl rfl (l' := (Sh19 q1 q2 q3 q4 q5 1 0 b72_e0 b74_e0 b75 b72_e0)) rfl k) ?_
    refine GoV.sg (mkF m 67 (Sh19 q1 q2 q3 q4 q5 1 0 b72_e0 b74_e0 b75 b72_e0) [(.ref b72_e0)]) (fun t k => XS.aload X100.here hx rfl (hb hby at_65) rfl rfl k) ?_
    refine GoV.sg (mkF m 69 (Sh19 q1 q2 q3 q4 q5 1 0 b72_e0 b74_e0 b75 b72_e0) [(.ref b72_e0), (.ref b72_e0)]) (fun t k => XS.aload X100.here hx rfl (hb hby at_67) rfl rfl k) ?_
    refine GoV.sg (mkF m 74 (Sh19 q1 q2 q3 q4 q5 1 0 b72_e0 b74_e0 b75 b72_e0) []) (fun t k => Jvm.RoadKit.acmp X100 hx rfl (cd := .eq) (x := (.ref b72_e0)) (y := (.ref b72_e0)) rfl rfl (pc0 := 69) (pc' := 74) (same := true) rfl (hb hby at_69) rfl (decide_eq_true rfl) (by decide) (by decide) k) ?_
    refine GoV.sg (mkF m 76 (Sh19 q1 q2 q3 q4 q5 1 0 b72_e0 b74_e0 b75 b72_e0) [(.ref b72_e0)]) (fun t k => XS.aload X100.here hx rfl (hb hby at_74) rfl rfl k) ?_
    obtain ⟨cq113, kq113, q113a, q113b, q113c⟩ := isOf hZ74 e100 f85_27
    obtain ⟨_, _, ⟨T113, L113, k113, n113⟩, -, X113, ⟨Lc113, hQ113, l113, y113, z113⟩, st113⟩ := X100.virtualBack hx (y := Y12) (z := Y12) hown74 (mvT hZ74 (ww hw 61 rfl)) (mvT hZ74 (ww hw 62 rfl)) (notFace_of_selects (args := #[]) (mvT hZ74 (ww hw 64 rfl))) (mvT hZ74 (ww hw 64 rfl)) (mvT hZ74 (ww hw 63 rfl)) (by decide) (backOf (W := 0) (rm12_12 l Z a0 hw [] b72_e0 b72_e1 k72_ke1 (lat8 (chA q1)) cs T85.heap n0  f85_27 f85_28 f85_29 f85_30 f85_25   ncs ) hZ74 (ww hw 65 rfl) (ww hw 7 rfl) (by decide) (by decide)) q113a q113c (g := (mkF m 76 (Sh19 q1 q2 q3 q4 q5 1 0 b72_e0 b74_e0 b75 b72_e0) [(.ref b72_e0)])) rfl (by rw [hml]; rfl) (Steps.refl _) (argsL := []) (rest := []) (lenOf pd_2829I rfl) rfl (by show 2 * 0 + _ ≤ _; exact Nat.le_of_eq rfl) (hb hby at_76) (fun _ _ => ⟨rfl, e100, (by decide : 8 + 0 ≤ _), (by decide : 16 + 0 ≤ _)⟩)
    dsimp only [Pt.U, Pt.locs, Pt.cells, Pt.slots] at X113 l113 y113 z113 st113 hQ113
    subst l113 y113 z113
    obtain ⟨rfl, N113q, e113⟩ := hQ113
    have N113 := Fr.app N100 N113q
    refine GoV.sg (mkF m 79 (Sh19 q1 q2 q3 q4 q5 1 0 b72_e0 b74_e0 b75 b72_e0) [(.int 1)]) (fun t k => st113.trans k) ?_
    refine GoV.sg (mkF m 81 (Sh19 q1 q2 q3 q4 q5 1 0 b72_e0 b74_e0 b75 b72_e0) [(.int 1), (.int 1)]) (fun t k => XS.iload X113.here hx rfl (hb hby at_79) rfl k) ?_
    refine GoV.sg (mkF m 86 (Sh19 q1 q2 q3 q4 q5 1 0 b72_e0 b74_e0 b75 b72_e0) []) (fun t k => XS.icmpYes X113.here hx rfl (pc0 := 81) (pc' := 86) rfl (hb hby at_81) rfl (by decide) (by decide) (by decide) k) ?_
    rcases ref_cases hvf with rfl | ⟨af, rfl⟩
    ·show GoV p e below s (ValQ (.int (1 : Int32)) n0) room_1.cells room_1.slots (T113.setTop (mkF m 86 (Sh19 q1 q2 q3 q4 q5 1 0 b72_e0 b74_e0 b75 b72_e0) []))
     refine GoV.sg (mkF m 88 (Sh19 q1 q2 q3 q4 q5 1 0 b72_e0 b74_e0 b75 b72_e0) [(.ref b72_e0)]) (fun t k => XS.aload X113.here hx rfl (hb hby at_86) rfl rfl k) ?_
     refine GoV.sg (mkF m 89 (Sh19 q1 q2 q3 q4 q5 1 0 b72_e0 b74_e0 b75 b72_e0) [(.int 0), (.ref b72_e0)]) (fun t k => XS.iconst X113.here hx rfl (hb hby at_88) k) ?_
     obtain ⟨cq136, kq136, q136a, q136b, q136c⟩ := isOf hZ74 e113 f85_27
     obtain ⟨_, _, ⟨T136, L136, k136, n136⟩, -, X136, ⟨Lc136, hQ136, l136, y136, z136⟩, st136⟩ := X113.virtualBack hx (y := Y14) (z := Y14) hown74 (mvT hZ74 (ww hw 71 rfl)) (mvT hZ74 (ww hw 72 rfl)) (notFace_of_selects (args := #[]) (mvT hZ74 (ww hw 74 rfl))) (mvT hZ74 (ww hw 74 rfl)) (mvT hZ74 (ww hw 73 rfl)) (by decide) (backOf (W := 0) (rm14_17 l Z a0 hw [] b72_e0 b72_e1 k72_ke1 (lat8 (chA q1)) cs T85.heap n0  f85_27 f85_28 f85_29 f85_30 f85_25 f85_26   ncs ) hZ74 (ww hw 75 rfl) (ww hw 7 rfl) (by decide) (by decide)) q136a q136c (g := (mkF m 89 (Sh19 q1 q2 q3 q4 q5 1 0 b72_e0 b74_e0 b75 b72_e0) [(.int 0), (.ref b72_e0)])) rfl (by rw [hml]; rfl) (Steps.refl _) (argsL := [(.int (0 : Int32))]) (rest := []) (lenOf pd_28I29C rfl) rfl (by show 2 * 0 + _ ≤ _; exact Nat.le_of_eq rfl) (hb hby at_89) (fun _ _ => ⟨rfl, e113, (by decide : 8 + 0 ≤ _), (by decide : 16 + 0 ≤ _)⟩)
     dsimp only [Pt.U, Pt.locs, Pt.cells, Pt.slots] at X136 l136 y136 z136 st136 hQ136
     subst l136 y136 z136
     obtain ⟨rfl, N136q, e136⟩ := hQ136
     have N136 := Fr.app N113 N136q
     refine GoV.sg (mkF m 92 (Sh19 q1 q2 q3 q4 q5 1 0 b72_e0 b74_e0 b75 b72_e0) [(.int (nar .char (nar .char ((lat8 (chA q1)) &&& (255 : Int32)).toUInt32.toUInt16.toUInt32.toInt32)))]) (fun t k => st136.trans k) ?_
     rw [show (nar .char (nar .char ((lat8 (chA q1)) &&& (255 : Int32)).toUInt32.toUInt16.toUInt32.toInt32)) = (chA q1) from (own_back _ (own_rA q1))]
     refine GoV.sg (mkF m 93 (Sh19 q1 q2 q3 q4 q5 1 0 b72_e0 b74_e0 b75 b72_e0) [(.int q1), (.int (chA q1))]) (fun t k => XS.iloadN X136.here hx rfl (hb hby at_92) rfl k) ?_
     refine GoV.sg (mkF m 96 (Sh19 q1 q2 q3 q4 q5 1 0 b72_e0 b74_e0 b75 b72_e0) [(.int 255), (.int q1), (.int (chA q1))]) (fun t k => XS.sipush X136.here hx rfl (hb hby at_93) k) ?_
     refine GoV.sg (mkF m 97 (Sh19 q1 q2 q3 q4 q5 1 0 b72_e0 b74_e0 b75 b72_e0) [(.int (q1 &&& (255 : Int32))), (.int (chA q1))]) (fun t k => XS.iand X136.here hx rfl (hb hby at_96) rfl k) ?_
     refine GoV.sg (mkF m 98 (Sh19 q1 q2 q3 q4 q5 1 0 b72_e0 b74_e0 b75 b72_e0) [(.int (q1 &&& (255 : Int32)).toUInt32.toUInt16.toUInt32.toInt32), (.int (chA q1))]) (fun t k => XS.i2c X136.here hx rfl (hb hby at_97) rfl k) ?_
     rw [own_cA q1]
     show GoV p e below s (ValQ (.int (1 : Int32)) n0) room_1.cells room_1.slots (T136.setTop (mkF m 98 (Sh19 q1 q2 q3 q4 q5 1 0 b72_e0 b74_e0 b75 b72_e0) [(.int (chA q1)), (.int (chA q1))]))
     refine GoV.sg (mkF m 103 (Sh19 q1 q2 q3 q4 q5 1 0 b72_e0 b74_e0 b75 b72_e0) []) (fun t k => XS.icmpYes X136.here hx rfl (pc0 := 98) (pc' := 103) rfl (hb hby at_98) rfl (teq rfl).1 (by decide) (by decide) k) ?_
     refine GoV.sg (mkF m 105 (Sh19 q1 q2 q3 q4 q5 1 0 b72_e0 b74_e0 b75 b72_e0) [(.int 1)]) (fun t k => XS.iload X136.here hx rfl (hb hby at_103) rfl k) ?_
     refine GoV.sg (mkF m 106 (Sh19 q1 q2 q3 q4 q5 1 0 b72_e0 b74_e0 b75 b72_e0) [(.int 2), (.int 1)]) (fun t k => XS.iconst X136.here hx rfl (hb hby at_105) k) ?_
     refine GoV.sg (mkF m 129 (Sh19 q1 q2 q3 q4 q5 1 0 b72_e0 b74_e0 b75 b72_e0) []) (fun t k => XS.icmpYes X136.here hx rfl (pc0 := 106) (pc' := 129) rfl (hb hby at_106) rfl (by decide) (by decide) (by decide) k) ?_
     refine GoV.sg (mkF m 131 (Sh19 q1 q2 q3 q4 q5 1 0 b72_e0 b74_e0 b75 b72_e0) [(.int 1)]) (fun t k => XS.iload X136.here hx rfl (hb hby at_129) rfl k) ?_
     refine GoV.sg (mkF m 132 (Sh19 q1 q2 q3 q4 q5 1 0 b72_e0 b74_e0 b75 b72_e0) [(.int 3), (.int 1)]) (fun t k => XS.iconst X136.here hx rfl (hb hby at_131) k) ?_
     refine GoV.sg (mkF m 155 (Sh19 q1 q2 q3 q4 q5 1 0 b72_e0 b74_e0 b75 b72_e0) []) (fun t k => XS.icmpYes X136.here hx rfl (pc0 := 132) (pc' := 155) rfl (hb hby at_132) rfl (by decide) (by decide) (by decide) k) ?_
     refine GoV.sg (mkF m 156 (Sh19 q1 q2 q3 q4 q5 1 0 b72_e0 b74_e0 b75 b72_e0) [(.int 1)]) (fun t k => XS.iconst X136.here hx rfl (hb hby at_155) k) ?_
     refine GoV.retN X136 hS74 (by rw [e136]; exact f85_31) hx (t := .boolean) Bd.returns (by simp) (hb hby at_156) Bd.notSynchronized ?_ (by decide) (by decide)
     exact ⟨rfl, N136⟩
    ·show GoV p e below s (ValQ (.int (1 : Int32)) n0) room_1.cells room_1.slots (T113.setTop (mkF m 86 (Sh19 q1 q2 q3 q4 q5 1 0 b72_e0 b74_e0 b75 b72_e0) []))
     refine GoV.sg (mkF m 88 (Sh19 q1 q2 q3 q4 q5 1 0 b72_e0 b74_e0 b75 b72_e0) [(.ref b72_e0)]) (fun t k => XS.aload X113.here hx rfl (hb hby at_86) rfl rfl k) ?_
     refine GoV.sg (mkF m 89 (Sh19 q1 q2 q3 q4 q5 1 0 b72_e0 b74_e0 b75 b72_e0) [(.int 0), (.ref b72_e0)]) (fun t k => XS.iconst X113.here hx rfl (hb hby at_88) k) ?_
     obtain ⟨cq157, kq157, q157a, q157b, q157c⟩ := isOf hZ74 e113 f85_27
     obtain ⟨_, _, ⟨T157, L157, k157, n157⟩, -, X157, ⟨Lc157, hQ157, l157, y157, z157⟩, st157⟩ := X113.virtualBack hx (y := Y14) (z := Y14) hown74 (mvT hZ74 (ww hw 71 rfl)) (mvT hZ74 (ww hw 72 rfl)) (notFace_of_selects (args := #[]) (mvT hZ74 (ww hw 74 rfl))) (mvT hZ74 (ww hw 74 rfl)) (mvT hZ74 (ww hw 73 rfl)) (by decide) (backOf (W := 0) (rm14_21 l Z a0 hw [] b72_e0 b72_e1 k72_ke1 (lat8 (chA q1)) cs af T85.heap n0  f85_27 f85_28 f85_29 f85_30 f85_25 f85_26   ncs ) hZ74 (ww hw 75 rfl) (ww hw 7 rfl) (by decide) (by decide)) q157a q157c (g := (mkF m 89 (Sh19 q1 q2 q3 q4 q5 1 0 b72_e0 b74_e0 b75 b72_e0) [(.int 0), (.ref b72_e0)])) rfl (by rw [hml]; rfl) (Steps.refl _) (argsL := [(.int (0 : Int32))]) (rest := []) (lenOf pd_28I29C rfl) rfl (by show 2 * 0 + _ ≤ _; exact Nat.le_of_eq rfl) (hb hby at_89) (fun _ _ => ⟨rfl, e113, (by decide : 8 + 0 ≤ _), (by decide : 16 + 0 ≤ _)⟩)
     dsimp only [Pt.U, Pt.locs, Pt.cells, Pt.slots] at X157 l157 y157 z157 st157 hQ157
     subst l157 y157 z157
     obtain ⟨rfl, N157q, e157⟩ := hQ157
     have N157 := Fr.app N113 N157q
     refine GoV.sg (mkF m 92 (Sh19 q1 q2 q3 q4 q5 1 0 b72_e0 b74_e0 b75 b72_e0) [(.int (nar .char (nar .char ((lat8 (chA q1)) &&& (255 : Int32)).toUInt32.toUInt16.toUInt32.toInt32)))]) (fun t k => st157.trans k) ?_
     rw [show (nar .char (nar .char ((lat8 (chA q1)) &&& (255 : Int32)).toUInt32.toUInt16.toUInt32.toInt32)) = (chA q1) from (own_back _ (own_rA q1))]
     refine GoV.sg (mkF m 93 (Sh19 q1 q2 q3 q4 q5 1 0 b72_e0 b74_e0 b75 b72_e0) [(.int q1), (.int (chA q1))]) (fun t k => XS.iloadN X157.here hx rfl (hb hby at_92) rfl k) ?_
     refine GoV.sg (mkF m 96 (Sh19 q1 q2 q3 q4 q5 1 0 b72_e0 b74_e0 b75 b72_e0) [(.int 255), (.int q1), (.int (chA q1))]) (fun t k => XS.sipush X157.here hx rfl (hb hby at_93) k) ?_
     refine GoV.sg (mkF m 97 (Sh19 q1 q2 q3 q4 q5 1 0 b72_e0 b74_e0 b75 b72_e0) [(.int (q1 &&& (255 : Int32))), (.int (chA q1))]) (fun t k => XS.iand X157.here hx rfl (hb hby at_96) rfl k) ?_
     refine GoV.sg (mkF m 98 (Sh19 q1 q2 q3 q4 q5 1 0 b72_e0 b74_e0 b75 b72_e0) [(.int (q1 &&& (255 : Int32)).toUInt32.toUInt16.toUInt32.toInt32), (.int (chA q1))]) (fun t k => XS.i2c X157.here hx rfl (hb hby at_97) rfl k) ?_
     rw [own_cA q1]
     show GoV p e below s (ValQ (.int (1 : Int32)) n0) room_1.cells room_1.slots (T157.setTop (mkF m 98 (Sh19 q1 q2 q3 q4 q5 1 0 b72_e0 b74_e0 b75 b72_e0) [(.int (chA q1)), (.int (chA q1))]))
     refine GoV.sg (mkF m 103 (Sh19 q1 q2 q3 q4 q5 1 0 b72_e0 b74_e0 b75 b72_e0) []) (fun t k => XS.icmpYes X157.here hx rfl (pc0 := 98) (pc' := 103) rfl (hb hby at_98) rfl (teq rfl).1 (by decide) (by decide) k) ?_
     refine GoV.sg (mkF m 105 (Sh19 q1 q2 q3 q4 q5 1 0 b72_e0 b74_e0 b75 b72_e0) [(.int 1)]) (fun t k => XS.iload X157.here hx rfl (hb hby at_103) rfl k) ?_
     refine GoV.sg (mkF m 106 (Sh19 q1 q2 q3 q4 q5 1 0 b72_e0 b74_e0 b75 b72_e0) [(.int 2), (.int 1)]) (fun t k => XS.iconst X157.here hx rfl (hb hby at_105) k) ?_
     refine GoV.sg (mkF m 129 (Sh19 q1 q2 q3 q4 q5 1 0 b72_e0 b74_e0 b75 b72_e0) []) (fun t k => XS.icmpYes X157.here hx rfl (pc0 := 106) (pc' := 129) rfl (hb hby at_106) rfl (by decide) (by decide) (by decide) k) ?_
     refine GoV.sg (mkF m 131 (Sh19 q1 q2 q3 q4 q5 1 0 b72_e0 b74_e0 b75 b72_e0) [(.int 1)]) (fun t k => XS.iload X157.here hx rfl (hb hby at_129) rfl k) ?_
     refine GoV.sg (mkF m 132 (Sh19 q1 q2 q3 q4 q5 1 0 b72_e0 b74_e0 b75 b72_e0) [(.int 3), (.int 1)]) (fun t k => XS.iconst X157.here hx rfl (hb hby at_131) k) ?_
     refine GoV.sg (mkF m 155 (Sh19 q1 q2 q3 q4 q5 1 0 b72_e0 b74_e0 b75 b72_e0) []) (fun t k => XS.icmpYes X157.here hx rfl (pc0 := 132) (pc' := 155) rfl (hb hby at_132) rfl (by decide) (by decide) (by decide) k) ?_
     refine GoV.sg (mkF m 156 (Sh19 q1 q2 q3 q4 q5 1 0 b72_e0 b74_e0 b75 b72_e0) [(.int 1)]) (fun t k => XS.iconst X157.here hx rfl (hb hby at_155) k) ?_
     refine GoV.retN X157 hS74 (by rw [e157]; exact f85_31) hx (t := .boolean) Bd.returns (by simp) (hb hby at_156) Bd.notSynchronized ?_ (by decide) (by decide)
     exact ⟨rfl, N157⟩
   ·rw [vv]
    show GoV p e below s (ValQ (.int (1 : Int32)) n0) room_1.cells room_1.slots (T72.setTop (mkF m 37 (Sh15 q1 q2 q3 q4 q5 1 1 b72_e0) []))
    refine GoV.sg (mkF m 39 (Sh15 q1 q2 q3 q4 q5 1 1 b72_e0) [(.int 1)]) (fun t k => XS.iload X72.here hx rfl (hb hby at_37) rfl k) ?_
    refine GoV.sg (mkF m 40 (Sh15 q1 q2 q3 q4 q5 1 1 b72_e0) [(.int q2), (.int 1)]) (fun t k => XS.iloadN X72.here hx rfl (hb hby at_39) rfl k) ?_
    obtain ⟨_, T158, L158, X158, hQ158, st158⟩ := own_callS X72 hx hZ hown (y := Y1) (ww hw 1 rfl) (ww hw 2 rfl) (ww hw 3 rfl) (ww hw 4 rfl) (by decide) 0 (rm1_6 l Z a0 hw [] q2 cs T72.heap n0 f72_1 f72_3   ncs ) (by decide) (by decide) rfl (by decide) (by decide) (g := (mkF m 40 (Sh15 q1 q2 q3 q4 q5 1 1 b72_e0) [(.int q2), (.int 1)])) rfl (by rw [hml]; rfl) (argsL := [(.int (1 : Int32)), (.int q2)]) (rest := []) (lenOf pd_28II29Ljava2flang2fString3b rfl) rfl (by show 2 * 0 + _ ≤ _; exact Nat.le_of_eq rfl) (hb hby at_40)
    obtain ⟨b158_e0, b158_e1, k158_ke1, rfl, N158q, K158, p158_0, p158_1, p158_2, p158_3, hz_b158_e0, hz_b158_e1⟩ := hQ158
    have N158 := Fr.app N72 N158q
    have f158_32 := Nat.le_trans f72_1 K158.1
    have f158_34 := own_staK0 f72_3 K158
    have f158_35 := own_staK0 f72_4 K158
    have f158_36 := Nat.le_trans f72_5 K158.1
    have f158_37 := p72_0.keep K158
    have f158_38 := p72_1.keep K158 nin0
    have f158_39 := p72_2.keep K158 nin0
    have f158_40 := p72_3.keep K158 nin0
    refine GoV.sg (mkF m 43 (Sh15 q1 q2 q3 q4 q5 1 1 b72_e0) [(.ref b158_e0)]) (fun t k => st158 t k) ?_
    refine GoV.sg (mkF m 45 (Sh16 q1 q2 q3 q4 q5 1 1 b72_e0 b158_e0) []) (fun t k => XS.astore X158.here hx rfl (hb hby at_43) rfl rfl (l' := (Sh16 q1 q2 q3 q4 q5 1 1 b72_e0 b158_e0)) rfl k) ?_
    obtain ⟨T159, h159, X159, e159, E159, A159, D159, -, st159⟩ := newO X158 hx hZ hown (ww hw 35 rfl) (ww hw 36 rfl) (ww hw 37 rfl) rfl (g := (mkF m 45 (Sh16 q1 q2 q3 q4 q5 1 1 b72_e0 b158_e0) [])) rfl (hb hby at_45) (by decide) (by decide)
    obtain ⟨b159, g159⟩ : ∃ z, z = T158.heap.size := ⟨_, rfl⟩
    rw [← g159] at A159 D159 st159
    have g_b159 : n0 ≤ b159 := Nat.le_trans f158_32 (Nat.le_of_eq g159.symm)
    have ne_b72_e0_b159 : b72_e0 ≠ b159 := Nat.ne_of_lt (Nat.lt_of_lt_of_eq f158_37.lt g159.symm)
    have ne_b72_e1_b159 : b72_e1 ≠ b159 := Nat.ne_of_lt (Nat.lt_of_lt_of_eq f158_40.lt g159.symm)
    have f159_43 := f158_34.ext E159
    have f159_44 := f158_35.ext E159
    have f159_45 := Nat.le_trans f158_36 E159.1
    have f159_46 := f158_37.ext E159
    have f159_47 := f158_38.ext E159
    have f159_48 := f158_39.ext E159
    have f159_49 := f158_40.ext E159
    have F159name : Fld Z h159 b159 "com/example/relaystack/relaystack/CommandLine$Option" "name" "Ljava/lang/String;" .null := D159 (Or.inr (ww hw 48 rfl)) (ty := (.object "java/lang/String")) (by decide)
    have F159given : Fld Z h159 b159 "com/example/relaystack/relaystack/CommandLine$Option" "given" "Ljava/lang/String;" .null := D159 (Or.inr (ww hw 50 rfl)) (ty := (.object "java/lang/String")) (by decide)
    refine GoV.sg (mkF m 48 (Sh16 q1 q2 q3 q4 q5 1 1 b72_e0 b158_e0) [(.ref b159)]) (fun t k => st159 t k) ?_
    refine GoV.sg (mkF m 49 (Sh16 q1 q2 q3 q4 q5 1 1 b72_e0 b158_e0) [(.ref b159), (.ref b159)]) (fun t k => XS.dup X159.here hx rfl (hb hby at_48) rfl rfl k) ?_
    refine GoV.sg (mkF m 51 (Sh16 q1 q2 q3 q4 q5 1 1 b72_e0 b158_e0) [(.ref b158_e0), (.ref b159), (.ref b159)]) (fun t k => XS.aload X159.here hx rfl (hb hby at_49) rfl rfl k) ?_
    refine GoV.sg (mkF m 53 (Sh16 q1 q2 q3 q4 q5 1 1 b72_e0 b158_e0) [(.ref b72_e0), (.ref b158_e0), (.ref b159), (.ref b159)]) (fun t k => XS.aload X159.here hx rfl (hb hby at_51) rfl rfl k) ?_
    obtain ⟨_, _, ⟨T163, L163, k163, n163⟩, -, X163, ⟨Lc163, hQ163, l163, y163, z163⟩, st163⟩ := X159.specialBack hx (y := Y8) rfl hown (mvT hZ (ww hw 38 rfl)) (mvT hZ (ww hw 39 rfl)) (mvT hZ (ww hw 40 rfl)) (by decide) (backOf (W := 1) (rm8_8 l Z a0 hw [] b159 b158_e0 b72_e0  h159 n0  A159 F159given F159name g_b159   ) hZ (ww hw 40 rfl) (ww hw 37 rfl) (by decide) (by decide)) (g := (mkF m 53 (Sh16 q1 q2 q3 q4 q5 1 1 b72_e0 b158_e0) [(.ref b72_e0), (.ref b158_e0), (.ref b159), (.ref b159)])) rfl (by rw [hml]; rfl) (Steps.refl _) (a := b159) (argsL := [(.ref b158_e0), (.ref b72_e0)]) (rest := [(.ref b159)]) (lenOf pd_28Ljava2flang2fString3bLjava2flang2fString3b29V rfl) rfl (by show 2 * 0 + _ ≤ _; exact Nat.le_of_eq rfl) (hb hby at_53) (fun _ _ => ⟨rfl, e159, (by decide : 7 + 0 ≤ _), (by decide : 14 + 0 ≤ _)⟩)
    dsimp only [Pt.U, Pt.locs, Pt.cells, Pt.slots] at X163 l163 y163 z163 st163 hQ163
    subst l163 y163 z163
    obtain ⟨rfl, N163q, K163, p163_0, p163_1, p163_2⟩ := hQ163
    have N163 := Fr.app N158 N163q
    have f163_52 := own_staK f159_43 K163 (allS (own_nsE A159) all0)
    have f163_53 := own_staK f159_44 K163 (allS (own_nsE A159) all0)
    have f163_54 := Nat.le_trans f159_45 K163.1
    have f163_55 := f159_46.keep K163
    have f163_56 := f159_47.keep K163 (ninS ne_b72_e0_b159 nin0)
    have f163_57 := f159_48.keep K163 (ninS ne_b72_e0_b159 nin0)
    have f163_58 := f159_49.keep K163 (ninS ne_b72_e1_b159 nin0)
    refine GoV.sg (mkF m 56 (Sh16 q1 q2 q3 q4 q5 1 1 b72_e0 b158_e0) [(.ref b159)]) (fun t k => st163.trans k) ?_
    refine GoV.sg (mkF m 58 (Sh18 q1 q2 q3 q4 q5 1 1 b72_e0 b158_e0 b159) []) (fun t k => XS.astore X163.here hx rfl (hb hby at_56) rfl rfl (l' := (Sh18 q1 q2 q3 q4 q5 1 1 b72_e0 b158_e0 b159)) rfl k) ?_
    refine GoV.sg (mkF m 60 (Sh18 q1 q2 q3 q4 q5 1 1 b72_e0 b158_e0 b159) [(.ref b159)]) (fun t k => XS.aload X163.here hx rfl (hb hby at_58) rfl rfl k) ?_
    obtain ⟨cq168, kq168, q168a, q168b, q168c⟩ := isOf hZ rfl p163_0
    obtain ⟨_, _, ⟨T168, L168, k168, n168⟩, -, X168, ⟨Lc168, hQ168, l168, y168, z168⟩, st168⟩ := X163.virtualBack hx (y := Y10) (z := Y10) hown (mvT hZ (ww hw 51 rfl)) (mvT hZ (ww hw 52 rfl)) (notFace_of_selects (args := #[]) (mvT hZ (ww hw 54 rfl))) (mvT hZ (ww hw 54 rfl)) (mvT hZ (ww hw 53 rfl)) (by decide) (backOf (W := 0) (rm10_10 l Z a0 hw [] b159 b72_e0 b72_e1 k72_ke1 (lat8 (chA q1)) T163.heap n0  f163_55 p163_1 f163_57 f163_58    ) hZ (ww hw 55 rfl) (ww hw 37 rfl) (by decide) (by decide)) q168a q168c (g := (mkF m 60 (Sh18 q1 q2 q3 q4 q5 1 1 b72_e0 b158_e0 b159) [(.ref b159)])) rfl (by rw [hml]; rfl) (Steps.refl _) (argsL := []) (rest := []) (lenOf pd_2829Ljava2flang2fString3b rfl) rfl (by show 2 * 0 + _ ≤ _; exact Nat.le_of_eq rfl) (hb hby at_60) (fun _ _ => ⟨rfl, rfl, (by decide : 7 + 0 ≤ _), (by decide : 14 + 0 ≤ _)⟩)
    dsimp only [Pt.U, Pt.locs, Pt.cells, Pt.slots] at X168 l168 y168 z168 st168 hQ168
    subst l168 y168 z168
    obtain ⟨rfl, N168q, e168⟩ := hQ168
    have N168 := Fr.app N163 N168q
    refine GoV.sg (mkF m 63 (Sh18 q1 q2 q3 q4 q5 1 1 b72_e0 b158_e0 b159) [(.ref b72_e0)]) (fun t k => st168.trans k) ?_
    refine GoV.sg (mkF m 65 (Sh19 q1 q2 q3 q4 q5 1 1 b72_e0 b158_e0 b159 b72_e0) []) (fun t k => XS.astore X168.here hx rfl (hb hby at_63) rfl rfl (l' := (Sh19 q1 q2 q3 q4 q5 1 1 b72_e0 b158_e0 b159 b72_e0)) rfl k) ?_
    refine GoV.sg (mkF m 67 (Sh19 q1 q2 q3 q4 q5 1 1 b72_e0 b158_e0 b159 b72_e0) [(.ref b72_e0)]) (fun t k => XS.aload X168.here hx rfl (hb hby at_65) rfl rfl k) ?_
    refine GoV.sg (mkF m 69 (Sh19 q1 q2 q3 q4 q5 1 1 b72_e0 b158_e0 b159 b72_e0) [(.ref b72_e0), (.ref b72_e0)]) (fun t k => XS.aload X168.here hx rfl (hb hby at_67) rfl rfl k) ?_
    refine GoV.sg (mkF m 74 (Sh19 q1 q2 q3 q4 q5 1 1 b72_e0 b158_e0 b159 b72_e0) []) (fun t k => Jvm.RoadKit.acmp X168 hx rfl (cd := .eq) (x := (.ref b72_e0)) (y := (.ref b72_e0)) rfl rfl (pc0 := 69) (pc' := 74) (same := true) rfl (hb hby at_69) rfl (decide_eq_true rfl) (by decide) (by decide) k) ?_
    refine GoV.sg (mkF m 76 (Sh19 q1 q2 q3 q4 q5 1 1 b72_e0 b158_e0 b159 b72_e0) [(.ref b72_e0)]) (fun t k => XS.aload X168.here hx rfl (hb hby at_74) rfl rfl k) ?_
    obtain ⟨cq169, kq169, q169a, q169b, q169c⟩ := isOf hZ e168 f163_55
    obtain ⟨_, _, ⟨T169, L169, k169, n169⟩, -, X169, ⟨Lc169, hQ169, l169, y169, z169⟩, st169⟩ := X168.virtualBack hx (y := Y12) (z := Y12) hown (mvT hZ (ww hw 61 rfl)) (mvT hZ (ww hw 62 rfl)) (notFace_of_selects (args := #[]) (mvT hZ (ww hw 64 rfl))) (mvT hZ (ww hw 64 rfl)) (mvT hZ (ww hw 63 rfl)) (by decide) (backOf (W := 0) (rm12_12 l Z a0 hw [] b72_e0 b72_e1 k72_ke1 (lat8 (chA q1)) cs T163.heap n0  f163_55 f163_56 f163_57 f163_58 f163_52   ncs ) hZ (ww hw 65 rfl) (ww hw 7 rfl) (by decide) (by decide)) q169a q169c (g := (mkF m 76 (Sh19 q1 q2 q3 q4 q5 1 1 b72_e0 b158_e0 b159 b72_e0) [(.ref b72_e0)])) rfl (by rw [hml]; rfl) (Steps.refl _) (argsL := []) (rest := []) (lenOf pd_2829I rfl) rfl (by show 2 * 0 + _ ≤ _; exact Nat.le_of_eq rfl) (hb hby at_76) (fun _ _ => ⟨rfl, e168, (by decide : 7 + 0 ≤ _), (by decide : 14 + 0 ≤ _)⟩)
    dsimp only [Pt.U, Pt.locs, Pt.cells, Pt.slots] at X169 l169 y169 z169 st169 hQ169
    subst l169 y169 z169
    obtain ⟨rfl, N169q, e169⟩ := hQ169
    have N169 := Fr.app N168 N169q
    refine GoV.sg (mkF m 79 (Sh19 q1 q2 q3 q4 q5 1 1 b72_e0 b158_e0 b159 b72_e0) [(.int 1)]) (fun t k => st169.trans k) ?_
    refine GoV.sg (mkF m 81 (Sh19 q1 q2 q3 q4 q5 1 1 b72_e0 b158_e0 b159 b72_e0) [(.int 1), (.int 1)]) (fun t k => XS.iload X169.here hx rfl (hb hby at_79) rfl k) ?_
    refine GoV.sg (mkF m 86 (Sh19 q1 q2 q3 q4 q5 1 1 b72_e0 b158_e0 b159 b72_e0) []) (fun t k => XS.icmpYes X169.here hx rfl (pc0 := 81) (pc' := 86) rfl (hb hby at_81) rfl (by decide) (by decide) (by decide) k) ?_
    rcases ref_cases hvf with rfl | ⟨af, rfl⟩
    ·show GoV p e below s (ValQ (.int (1 : Int32)) n0) room_1.cells room_1.slots (T169.setTop (mkF m 86 (Sh19 q1 q2 q3 q4 q5 1 1 b72_e0 b158_e0 b159 b72_e0) []))
     refine GoV.sg (mkF m 88 (Sh19 q1 q2 q3 q4 q5 1 1 b72_e0 b158_e0 b159 b72_e0) [(.ref b72_e0)]) (fun t k => XS.aload X169.here hx rfl (hb hby at_86) rfl rfl k) ?_
     refine GoV.sg (mkF m 89 (Sh19 q1 q2 q3 q4 q5 1 1 b72_e0 b158_e0 b159 b72_e0) [(.int 0), (.ref b72_e0)]) (fun t k => XS.iconst X169.here hx rfl (hb hby at_88) k) ?_
     obtain ⟨cq170, kq170, q170a, q170b, q170c⟩ := isOf hZ e169 f163_55
     obtain ⟨_, _, ⟨T170, L170, k170, n170⟩, -, X170, ⟨Lc170, hQ170, l170, y170, z170⟩, st170⟩ := X169.virtualBack hx (y := Y14) (z := Y14) hown (mvT hZ (ww hw 71 rfl)) (mvT hZ (ww hw 72 rfl)) (notFace_of_selects (args := #[]) (mvT hZ (ww hw 74 rfl))) (mvT hZ (ww hw 74 rfl)) (mvT hZ (ww hw 73 rfl)) (by decide) (backOf (W := 0) (rm14_17 l Z a0 hw [] b72_e0 b72_e1 k72_ke1 (lat8 (chA q1)) cs T163.heap n0  f163_55 f163_56 f163_57 f163_58 f163_52 f163_53   ncs ) hZ (ww hw 75 rfl) (ww hw 7 rfl) (by decide) (by decide)) q170a q170c (g := (mkF m 89 (Sh19 q1 q2 q3 q4 q5 1 1 b72_e0 b158_e0 b159 b72_e0) [(.int 0), (.ref b72_e0)])) rfl (by rw [hml]; rfl) (Steps.refl _) (argsL := [(.int (0 : Int32))]) (rest := []) (lenOf pd_28I29C rfl) rfl (by show 2 * 0 + _ ≤ _; exact Nat.le_of_eq rfl) (hb hby at_89) (fun _ _ => ⟨rfl, e169, (by decide : 7 + 0 ≤ _), (by decide : 14 + 0 ≤ _)⟩)
     dsimp only [Pt.U, Pt.locs, Pt.cells, Pt.slots] at X170 l170 y170 z170 st170 hQ170
     subst l170 y170 z170
     obtain ⟨rfl, N170q, e170⟩ := hQ170
     have N170 := Fr.app N169 N170q
     refine GoV.sg (mkF m 92 (Sh19 q1 q2 q3 q4 q5 1 1 b72_e0 b158_e0 b159 b72_e0) [(.int (nar .char (nar .char ((lat8 (chA q1)) &&& (255 : Int32)).toUInt32.toUInt16.toUInt32.toInt32)))]) (fun t k => st170.trans k) ?_
     rw [show (nar .char (nar .char ((lat8 (chA q1)) &&& (255 : Int32)).toUInt32.toUInt16.toUInt32.toInt32)) = (chA q1) from (own_back _ (own_rA q1))]
     refine GoV.sg (mkF m 93 (Sh19 q1 q2 q3 q4 q5 1 1 b72_e0 b158_e0 b159 b72_e0) [(.int q1), (.int (chA q1))]) (fun t k => XS.iloadN X170.here hx rfl (hb hby at_92) rfl k) ?_
     refine GoV.sg (mkF m 96 (Sh19 q1 q2 q3 q4 q5 1 1 b72_e0 b158_e0 b159 b72_e0) [(.int 255), (.int q1), (.int (chA q1))]) (fun t k => XS.sipush X170.here hx rfl (hb hby at_93) k) ?_
     refine GoV.sg (mkF m 97 (Sh19 q1 q2 q3 q4 q5 1 1 b72_e0 b158_e0 b159 b72_e0) [(.int (q1 &&& (255 : Int32))), (.int (chA q1))]) (fun t k => XS.iand X170.here hx rfl (hb hby at_96) rfl k) ?_
     refine GoV.sg (mkF m 98 (Sh19 q1 q2 q3 q4 q5 1 1 b72_e0 b158_e0 b159 b72_e0) [(.int (q1 &&& (255 : Int32)).toUInt32.toUInt16.toUInt32.toInt32), (.int (chA q1))]) (fun t k => XS.i2c X170.here hx rfl (hb hby at_97) rfl k) ?_
     rw [own_cA q1]
     show GoV p e below s (ValQ (.int (1 : Int32)) n0) room_1.cells room_1.slots (T170.setTop (mkF m 98 (Sh19 q1 q2 q3 q4 q5 1 1 b72_e0 b158_e0 b159 b72_e0) [(.int (chA q1)), (.int (chA q1))]))
     refine GoV.sg (mkF m 103 (Sh19 q1 q2 q3 q4 q5 1 1 b72_e0 b158_e0 b159 b72_e0) []) (fun t k => XS.icmpYes X170.here hx rfl (pc0 := 98) (pc' := 103) rfl (hb hby at_98) rfl (teq rfl).1 (by decide) (by decide) k) ?_
     refine GoV.sg (mkF m 105 (Sh19 q1 q2 q3 q4 q5 1 1 b72_e0 b158_e0 b159 b72_e0) [(.int 1)]) (fun t k => XS.iload X170.here hx rfl (hb hby at_103) rfl k) ?_
     refine GoV.sg (mkF m 106 (Sh19 q1 q2 q3 q4 q5 1 1 b72_e0 b158_e0 b159 b72_e0) [(.int 2), (.int 1)]) (fun t k => XS.iconst X170.here hx rfl (hb hby at_105) k) ?_
     refine GoV.sg (mkF m 129 (Sh19 q1 q2 q3 q4 q5 1 1 b72_e0 b158_e0 b159 b72_e0) []) (fun t k => XS.icmpYes X170.here hx rfl (pc0 := 106) (pc' := 129) rfl (hb hby at_106) rfl (by decide) (by decide) (by decide) k) ?_
     refine GoV.sg (mkF m 131 (Sh19 q1 q2 q3 q4 q5 1 1 b72_e0 b158_e0 b159 b72_e0) [(.int 1)]) (fun t k => XS.iload X170.here hx rfl (hb hby at_129) rfl k) ?_
     refine GoV.sg (mkF m 132 (Sh19 q1 q2 q3 q4 q5 1 1 b72_e0 b158_e0 b159 b72_e0) [(.int 3), (.int 1)]) (fun t k => XS.iconst X170.here hx rfl (hb hby at_131) k) ?_
     refine GoV.sg (mkF m 155 (Sh19 q1 q2 q3 q4 q5 1 1 b72_e0 b158_e0 b159 b72_e0) []) (fun t k => XS.icmpYes X170.here hx rfl (pc0 := 132) (pc' := 155) rfl (hb hby at_132) rfl (by decide) (by decide) (by decide) k) ?_
     refine GoV.sg (mkF m 156 (Sh19 q1 q2 q3 q4 q5 1 1 b72_e0 b158_e0 b159 b72_e0) [(.int 1)]) (fun t k => XS.iconst X170.here hx rfl (hb hby at_155) k) ?_
     refine GoV.retN X170 hS0 (by rw [e170]; exact f163_54) hx (t := .boolean) Bd.returns (by simp) (hb hby at_156) Bd.notSynchronized ?_ (by decide) (by decide)
     exact ⟨rfl, N170⟩
    ·show GoV p e below s (ValQ (.int (1 : Int32)) n0) room_1.cells room_1.slots (T169.setTop (mkF m 86 (Sh19 q1 q2 q3 q4 q5 1 1 b72_e0 b158_e0 b159 b72_e0) []))
     refine GoV.sg (mkF m 88 (Sh19 q1 q2 q3 q4 q5 1 1 b72_e0 b158_e0 b159 b72_e0) [(.ref b72_e0)]) (fun t k => XS.aload X169.here hx rfl (hb hby at_86) rfl rfl k) ?_
     refine GoV.sg (mkF m 89 (Sh19 q1 q2 q3 q4 q5 1 1 b72_e0 b158_e0 b159 b72_e0) [(.int 0), (.ref b72_e0)]) (fun t k => XS.iconst X169.here hx rfl (hb hby at_88) k) ?_
     obtain ⟨cq171, kq171, q171a, q171b, q171c⟩ := isOf hZ e169 f163_55
     obtain ⟨_, _, ⟨T171, L171, k171, n171⟩, -, X171, ⟨Lc171, hQ171, l171, y171, z171⟩, st171⟩ := X169.virtualBack hx (y := Y14) (z := Y14) hown (mvT hZ (ww hw 71 rfl)) (mvT hZ (ww hw 72 rfl)) (notFace_of_selects (args := #[]) (mvT hZ (ww hw 74 rfl))) (mvT hZ (ww hw 74 rfl)) (mvT hZ (ww hw 73 rfl)) (by decide) (backOf (W := 0) (rm14_21 l Z a0 hw [] b72_e0 b72_e1 k72_ke1 (lat8 (chA q1)) cs af T163.heap n0  f163_55 f163_56 f163_57 f163_58 f163_52 f163_53   ncs ) hZ (ww hw 75 rfl) (ww hw 7 rfl) (by decide) (by decide)) q171a q171c (g := (mkF m 89 (Sh19 q1 q2 q3 q4 q5 1 1 b72_e0 b158_e0 b159 b72_e0) [(.int 0), (.ref b72_e0)])) rfl (by rw [hml]; rfl) (Steps.refl _) (argsL := [(.int (0 : Int32))]) (rest := []) (lenOf pd_28I29C rfl) rfl (by show 2 * 0 + _ ≤ _; exact Nat.le_of_eq rfl) (hb hby at_89) (fun _ _ => ⟨rfl, e169, (by decide : 7 + 0 ≤ _), (by decide : 14 + 0 ≤ _)⟩)
     dsimp only [Pt.U, Pt.locs, Pt.cells, Pt.slots] at X171 l171 y171 z171 st171 hQ171
     subst l171 y171 z171
     obtain ⟨rfl, N171q, e171⟩ := hQ171
     have N171 := Fr.app N169 N171q
     refine GoV.sg (mkF m 92 (Sh19 q1 q2 q3 q4 q5 1 1 b72_e0 b158_e0 b159 b72_e0) [(.int (nar .char (nar .char ((lat8 (chA q1)) &&& (255 : Int32)).toUInt32.toUInt16.toUInt32.toInt32)))]) (fun t k => st171.trans k) ?_
     rw [show (nar .char (nar .char ((lat8 (chA q1)) &&& (255 : Int32)).toUInt32.toUInt16.toUInt32.toInt32)) = (chA q1) from (own_back _ (own_rA q1))]
     refine GoV.sg (mkF m 93 (Sh19 q1 q2 q3 q4 q5 1 1 b72_e0 b158_e0 b159 b72_e0) [(.int q1), (.int (chA q1))]) (fun t k => XS.iloadN X171.here hx rfl (hb hby at_92) rfl k) ?_
     refine GoV.sg (mkF m 96 (Sh19 q1 q2 q3 q4 q5 1 1 b72_e0 b158_e0 b159 b72_e0) [(.int 255), (.int q1), (.int (chA q1))]) (fun t k => XS.sipush X171.here hx rfl (hb hby at_93) k) ?_
     refine GoV.sg (mkF m 97 (Sh19 q1 q2 q3 q4 q5 1 1 b72_e0 b158_e0 b159 b72_e0) [(.int (q1 &&& (255 : Int32))), (.int (chA q1))]) (fun t k => XS.iand X171.here hx rfl (hb hby at_96) rfl k) ?_
     refine GoV.sg (mkF m 98 (Sh19 q1 q2 q3 q4 q5 1 1 b72_e0 b158_e0 b159 b72_e0) [(.int (q1 &&& (255 : Int32)).toUInt32.toUInt16.toUInt32.toInt32), (.int (chA q1))]) (fun t k => XS.i2c X171.here hx rfl (hb hby at_97) rfl k) ?_
     rw [own_cA q1]
     show GoV p e below s (ValQ (.int (1 : Int32)) n0) room_1.cells room_1.slots (T171.setTop (mkF m 98 (Sh19 q1 q2 q3 q4 q5 1 1 b72_e0 b158_e0 b159 b72_e0) [(.int (chA q1)), (.int (chA q1))]))
     refine GoV.sg (mkF m 103 (Sh19 q1 q2 q3 q4 q5 1 1 b72_e0 b158_e0 b159 b72_e0) []) (fun t k => XS.icmpYes X171.here hx rfl (pc0 := 98) (pc' := 103) rfl (hb hby at_98) rfl (teq rfl).1 (by decide) (by decide) k) ?_
     refine GoV.sg (mkF m 105 (Sh19 q1 q2 q3 q4 q5 1 1 b72_e0 b158_e0 b159 b72_e0) [(.int 1)]) (fun t k => XS.iload X171.here hx rfl (hb hby at_103) rfl k) ?_
     refine GoV.sg (mkF m 106 (Sh19 q1 q2 q3 q4 q5 1 1 b72_e0 b158_e0 b159 b72_e0) [(.int 2), (.int 1)]) (fun t k => XS.iconst X171.here hx rfl (hb hby at_105) k) ?_
     refine GoV.sg (mkF m 129 (Sh19 q1 q2 q3 q4 q5 1 1 b72_e0 b158_e0 b159 b72_e0) []) (fun t k => XS.icmpYes X171.here hx rfl (pc0 := 106) (pc' := 129) rfl (hb hby at_106) rfl (by decide) (by decide) (by decide) k) ?_
     refine GoV.sg (mkF m 131 (Sh19 q1 q2 q3 q4 q5 1 1 b72_e0 b158_e0 b159 b72_e0) [(.int 1)]) (fun t k => XS.iload X171.here hx rfl (hb hby at_129) rfl k) ?_
     refine GoV.sg (mkF m 132 (Sh19 q1 q2 q3 q4 q5 1 1 b72_e0 b158_e0 b159 b72_e0) [(.int 3), (.int 1)]) (fun t k => XS.iconst X171.here hx rfl (hb hby at_131) k) ?_
     refine GoV.sg (mkF m 155 (Sh19 q1 q2 q3 q4 q5 1 1 b72_e0 b158_e0 b159 b72_e0) []) (fun t k => XS.icmpYes X171.here hx rfl (pc0 := 132) (pc' := 155) rfl (hb hby at_132) rfl (by decide) (by decide) (by decide) k) ?_
     refine GoV.sg (mkF m 156 (Sh19 q1 q2 q3 q4 q5 1 1 b72_e0 b158_e0 b159 b72_e0) [(.int 1)]) (fun t k => XS.iconst X171.here hx rfl (hb hby at_155) k) ?_
     refine GoV.retN X171 hS0 (by rw [e171]; exact f163_54) hx (t := .boolean) Bd.returns (by simp) (hb hby at_156) Bd.notSynchronized ?_ (by decide) (by decide)
     exact ⟨rfl, N171⟩
   ·rw [vv]
    show GoV p e below s (ValQ (.int (1 : Int32)) n0) room_1.cells room_1.slots (T72.setTop (mkF m 37 (Sh15 q1 q2 q3 q4 q5 1 2 b72_e0) []))
    refine GoV.sg (mkF m 39 (Sh15 q1 q2 q3 q4 q5 1 2 b72_e0) [(.int 2)]) (fun t k => XS.iload X72.here hx rfl (hb hby at_37) rfl k) ?_
    refine GoV.sg (mkF m 40 (Sh15 q1 q2 q3 q4 q5 1 2 b72_e0) [(.int q2), (.int 2)]) (fun t k => XS.iloadN X72.here hx rfl (hb hby at_39) rfl k) ?_
    obtain ⟨_, T243, L243, X243, hQ243, st243⟩ := own_callS X72 hx hZ hown (y := Y1) (ww hw 1 rfl) (ww hw 2 rfl) (ww hw 3 rfl) (ww hw 4 rfl) (by decide) 0 (rm1_27 l Z a0 hw [] q2 cs T72.heap n0 f72_1 f72_3   ncs ) (by decide) (by decide) rfl (by decide) (by decide) (g := (mkF m 40 (Sh15 q1 q2 q3 q4 q5 1 2 b72_e0) [(.int q2), (.int 2)])) rfl (by rw [hml]; rfl) (argsL := [(.int (2 : Int32)), (.int q2)]) (rest := []) (lenOf pd_28II29Ljava2flang2fString3b rfl) rfl (by show 2 * 0 + _ ≤ _; exact Nat.le_of_eq rfl) (hb hby at_40)
    obtain ⟨b243_e0, b243_e1, k243_ke1, rfl, N243q, K243, p243_0, p243_1, p243_2, p243_3, hz_b243_e0, hz_b243_e1⟩ := hQ243
    have N243 := Fr.app N72 N243q
    have f243_59 := Nat.le_trans f72_1 K243.1
    have f243_61 := own_staK0 f72_3 K243
    have f243_62 := own_staK0 f72_4 K243
    have f243_63 := Nat.le_trans f72_5 K243.1
    have f243_64 := p72_0.keep K243
    have f243_65 := p72_1.keep K243 nin0
    have f243_66 := p72_2.keep K243 nin0
    have f243_67 := p72_3.keep K243 nin0
    refine GoV.sg (mkF m 43 (Sh15 q1 q2 q3 q4 q5 1 2 b72_e0) [(.ref b243_e0)]) (fun t k => st243 t k) ?_
    refine GoV.sg (mkF m 45 (Sh16 q1 q2 q3 q4 q5 1 2 b72_e0 b243_e0) []) (fun t k => XS.astore X243.here hx rfl (hb hby at_43) rfl rfl (l' := (Sh16 q1 q2 q3 q4 q5 1 2 b72_e0 b243_e0)) rfl k) ?_
    obtain ⟨T244, h244, X244, e244, E244, A244, D244, -, st244⟩ := newO X243 hx hZ hown (ww hw 35 rfl) (ww hw 36 rfl) (ww hw 37 rfl) rfl (g := (mkF m 45 (Sh16 q1 q2 q3 q4 q5 1 2 b72_e0 b243_e0) [])) rfl (hb hby at_45) (by decide) (by decide)
    obtain ⟨b244, g244⟩ : ∃ z, z = T243.heap.size := ⟨_, rfl⟩
    rw [← g244] at A244 D244 st244
    have g_b244 : n0 ≤ b244 := Nat.le_trans f243_59 (Nat.le_of_eq g244.symm)
    have ne_b72_e0_b244 : b72_e0 ≠ b244 := Nat.ne_of_lt (Nat.lt_of_lt_of_eq f243_64.lt g244.symm)
    have ne_b72_e1_b244 : b72_e1 ≠ b244 := Nat.ne_of_lt (Nat.lt_of_lt_of_eq f243_67.lt g244.symm)
    have f244_70 := f243_61.ext E244
    have f244_71 := f243_62.ext E244
    have f244_72 := Nat.le_trans f243_63 E244.1
    have f244_73 := f243_64.ext E244
    have f244_74 := f243_65.ext E244
    have f244_75 := f243_66.ext E244
    have f244_76 := f243_67.ext E244
    have F244name : Fld Z h244 b244 "com/example/relaystack/relaystack/CommandLine$Option" "name" "Ljava/lang/String;" .null := D244 (Or.inr (ww hw 48 rfl)) (ty := (.object "java/lang/String")) (by decide)
    have F244given : Fld Z h244 b244 "com/example/relaystack/relaystack/CommandLine$Option" "given" "Ljava/lang/String;" .null := D244 (Or.inr (ww hw 50 rfl)) (ty := (.object "java/lang/String")) (by decide)
    refine GoV.sg (mkF m 48 (Sh16 q1 q2 q3 q4 q5 1 2 b72_e0 b243_e0) [(.ref b244)]) (fun t k => st244 t k) ?_
    refine GoV.sg (mkF m 49 (Sh16 q1 q2 q3 q4 q5 1 2 b72_e0 b243_e0) [(.ref b244), (.ref b244)]) (fun t k => XS.dup X244.here hx rfl (hb hby at_48) rfl rfl k) ?_
    refine GoV.sg (mkF m 51 (Sh16 q1 q2 q3 q4 q5 1 2 b72_e0 b243_e0) [(.ref b243_e0), (.ref b244), (.ref b244)]) (fun t k => XS.aload X244.here hx rfl (hb hby at_49) rfl rfl k) ?_
    refine GoV.sg (mkF m 53 (Sh16 q1 q2 q3 q4 q5 1 2 b72_e0 b243_e0) [(.ref b72_e0), (.ref b243_e0), (.ref b244), (.ref b244)]) (fun t k => XS.aload X244.here hx rfl (hb hby at_51) rfl rfl k) ?_
    obtain ⟨_, _, ⟨T245, L245, k245, n245⟩, -, X245, ⟨Lc245, hQ245, l245, y245, z245⟩, st245⟩ := X244.specialBack hx (y := Y8) rfl hown (mvT hZ (ww hw 38 rfl)) (mvT hZ (ww hw 39 rfl)) (mvT hZ (ww hw 40 rfl)) (by decide) (backOf (W := 1) (rm8_8 l Z a0 hw [] b244 b243_e0 b72_e0  h244 n0  A244 F244given F244name g_b244   ) hZ (ww hw 40 rfl) (ww hw 37 rfl) (by decide) (by decide)) (g := (mkF m 53 (Sh16 q1 q2 q3 q4 q5 1 2 b72_e0 b243_e0) [(.ref b72_e0), (.ref b243_e0), (.ref b244), (.ref b244)])) rfl (by rw [hml]; rfl) (Steps.refl _) (a := b244) (argsL := [(.ref b243_e0), (.ref b72_e0)]) (rest := [(.ref b244)]) (lenOf pd_28Ljava2flang2fString3bLjava2flang2fString3b29V rfl) rfl (by show 2 * 0 + _ ≤ _; exact Nat.le_of_eq rfl) (hb hby at_53) (fun _ _ => ⟨rfl, e244, (by decide : 7 + 0 ≤ _), (by decide : 16 + 0 ≤ _)⟩)
    dsimp only [Pt.U, Pt.locs, Pt.cells, Pt.slots] at X245 l245 y245 z245 st245 hQ245
    subst l245 y245 z245
    obtain ⟨rfl, N245q, K245, p245_0, p245_1, p245_2⟩ := hQ245
    have N245 := Fr.app N243 N245q
    have f245_79 := own_staK f244_70 K245 (allS (own_nsE A244) all0)
    have f245_80 := own_staK f244_71 K245 (allS (own_nsE A244) all0)
    have f245_81 := Nat.le_trans f244_72 K245.1
    have f245_82 := f244_73.keep K245
    have f245_83 := f244_74.keep K245 (ninS ne_b72_e0_b244 nin0)
    have f245_84 := f244_75.keep K245 (ninS ne_b72_e0_b244 nin0)
    have f245_85 := f244_76.keep K245 (ninS ne_b72_e1_b244 nin0)
    refine GoV.sg (mkF m 56 (Sh16 q1 q2 q3 q4 q5 1 2 b72_e0 b243_e0) [(.ref b244)]) (fun t k => st245.trans k) ?_
    refine GoV.sg (mkF m 58 (Sh18 q1 q2 q3 q4 q5 1 2 b72_e0 b243_e0 b244) []) (fun t k => XS.astore X245.here hx rfl (hb hby at_56) rfl rfl (l' := (Sh18 q1 q2 q3 q4 q5 1 2 b72_e0 b243_e0 b244)) rfl k) ?_
    refine GoV.sg (mkF m 60 (Sh18 q1 q2 q3 q4 q5 1 2 b72_e0 b243_e0 b244) [(.ref b244)]) (fun t k => XS.aload X245.here hx rfl (hb hby at_58) rfl rfl k) ?_
    obtain ⟨cq246, kq246, q246a, q246b, q246c⟩ := isOf hZ rfl p245_0
    obtain ⟨_, _, ⟨T246, L246, k246, n246⟩, -, X246, ⟨Lc246, hQ246, l246, y246, z246⟩, st246⟩ := X245.virtualBack hx (y := Y10) (z := Y10) hown (mvT hZ (ww hw 51 rfl)) (mvT hZ (ww hw 52 rfl)) (notFace_of_selects (args := #[]) (mvT hZ (ww hw 54 rfl))) (mvT hZ (ww hw 54 rfl)) (mvT hZ (ww hw 53 rfl)) (by decide) (backOf (W := 0) (rm10_10 l Z a0 hw [] b244 b72_e0 b72_e1 k72_ke1 (lat8 (chA q1)) T245.heap n0  f245_82 p245_1 f245_84 f245_85    ) hZ (ww hw 55 rfl) (ww hw 37 rfl) (by decide) (by decide)) q246a q246c (g := (mkF m 60 (Sh18 q1 q2 q3 q4 q5 1 2 b72_e0 b243_e0 b244) [(.ref b244)])) rfl (by rw [hml]; rfl) (Steps.refl _) (argsL := []) (rest := []) (lenOf pd_2829Ljava2flang2fString3b rfl) rfl (by show 2 * 0 + _ ≤ _; exact Nat.le_of_eq rfl) (hb hby at_60) (fun _ _ => ⟨rfl, rfl, (by decide : 7 + 0 ≤ _), (by decide : 16 + 0 ≤ _)⟩)
    dsimp only [Pt.U, Pt.locs, Pt.cells, Pt.slots] at X246 l246 y246 z246 st246 hQ246
    subst l246 y246 z246
    obtain ⟨rfl, N246q, e246⟩ := hQ246
    have N246 := Fr.app N245 N246q
    refine GoV.sg (mkF m 63 (Sh18 q1 q2 q3 q4 q5 1 2 b72_e0 b243_e0 b244) [(.ref b72_e0)]) (fun t k => st246.trans k) ?_
    refine GoV.sg (mkF m 65 (Sh19 q1 q2 q3 q4 q5 1 2 b72_e0 b243_e0 b244 b72_e0) []) (fun t k => XS.astore X246.here hx rfl (hb hby at_63) rfl rfl (l' := (Sh19 q1 q2 q3 q4 q5 1 2 b72_e0 b243_e0 b244 b72_e0)) rfl k) ?_
    refine GoV.sg (mkF m 67 (Sh19 q1 q2 q3 q4 q5 1 2 b72_e0 b243_e0 b244 b72_e0) [(.ref b72_e0)]) (fun t k => XS.aload X246.here hx rfl (hb hby at_65) rfl rfl k) ?_
    refine GoV.sg (mkF m 69 (Sh19 q1 q2 q3 q4 q5 1 2 b72_e0 b243_e0 b244 b72_e0) [(.ref b72_e0), (.ref b72_e0)]) (fun t k => XS.aload X246.here hx rfl (hb hby at_67) rfl rfl k) ?_
    refine GoV.sg (mkF m 74 (Sh19 q1 q2 q3 q4 q5 1 2 b72_e0 b243_e0 b244 b72_e0) []) (fun t k => Jvm.RoadKit.acmp X246 hx rfl (cd := .eq) (x := (.ref b72_e0)) (y := (.ref b72_e0)) rfl rfl (pc0 := 69) (pc' := 74) (same := true) rfl (hb hby at_69) rfl (decide_eq_true rfl) (by decide) (by decide) k) ?_
    refine GoV.sg (mkF m 76 (Sh19 q1 q2 q3 q4 q5 1 2 b72_e0 b243_e0 b244 b72_e0) [(.ref b72_e0)]) (fun t k => XS.aload X246.here hx rfl (hb hby at_74) rfl rfl k) ?_
    obtain ⟨cq247, kq247, q247a, q247b, q247c⟩ := isOf hZ e246 f245_82
    obtain ⟨_, _, ⟨T247, L247, k247, n247⟩, -, X247, ⟨Lc247, hQ247, l247, y247, z247⟩, st247⟩ := X246.virtualBack hx (y := Y12) (z := Y12) hown (mvT hZ (ww hw 61 rfl)) (mvT hZ (ww hw 62 rfl)) (notFace_of_selects (args := #[]) (mvT hZ (ww hw 64 rfl))) (mvT hZ (ww hw 64 rfl)) (mvT hZ (ww hw 63 rfl)) (by decide) (backOf (W := 0) (rm12_12 l Z a0 hw [] b72_e0 b72_e1 k72_ke1 (lat8 (chA q1)) cs T245.heap n0  f245_82 f245_83 f245_84 f245_85 f245_79   ncs ) hZ (ww hw 65 rfl) (ww hw 7 rfl) (by decide) (by decide)) q247a q247c (g := (mkF m 76 (Sh19 q1 q2 q3 q4 q5 1 2 b72_e0 b243_e0 b244 b72_e0) [(.ref b72_e0)])) rfl (by rw [hml]; rfl) (Steps.refl _) (argsL := []) (rest := []) (lenOf pd_2829I rfl) rfl (by show 2 * 0 + _ ≤ _; exact Nat.le_of_eq rfl) (hb hby at_76) (fun _ _ => ⟨rfl, e246, (by decide : 7 + 0 ≤ _), (by decide : 16 + 0 ≤ _)⟩)
    dsimp only [Pt.U, Pt.locs, Pt.cells, Pt.slots] at X247 l247 y247 z247 st247 hQ247
    subst l247 y247 z247
    obtain ⟨rfl, N247q, e247⟩ := hQ247
    have N247 := Fr.app N246 N247q
    refine GoV.sg (mkF m 79 (Sh19 q1 q2 q3 q4 q5 1 2 b72_e0 b243_e0 b244 b72_e0) [(.int 1)]) (fun t k => st247.trans k) ?_
    refine GoV.sg (mkF m 81 (Sh19 q1 q2 q3 q4 q5 1 2 b72_e0 b243_e0 b244 b72_e0) [(.int 1), (.int 1)]) (fun t k => XS.iload X247.here hx rfl (hb hby at_79) rfl k) ?_
    refine GoV.sg (mkF m 86 (Sh19 q1 q2 q3 q4 q5 1 2 b72_e0 b243_e0 b244 b72_e0) []) (fun t k => XS.icmpYes X247.here hx rfl (pc0 := 81) (pc' := 86) rfl (hb hby at_81) rfl (by decide) (by decide) (by decide) k) ?_
    rcases ref_cases hvf with rfl | ⟨af, rfl⟩
    ·show GoV p e below s (ValQ (.int (1 : Int32)) n0) room_1.cells room_1.slots (T247.setTop (mkF m 86 (Sh19 q1 q2 q3 q4 q5 1 2 b72_e0 b243_e0 b244 b72_e0) []))
     refine GoV.sg (mkF m 88 (Sh19 q1 q2 q3 q4 q5 1 2 b72_e0 b243_e0 b244 b72_e0) [(.ref b72_e0)]) (fun t k => XS.aload X247.here hx rfl (hb hby at_86) rfl rfl k) ?_
     refine GoV.sg (mkF m 89 (Sh19 q1 q2 q3 q4 q5 1 2 b72_e0 b243_e0 b244 b72_e0) [(.int 0), (.ref b72_e0)]) (fun t k => XS.iconst X247.here hx rfl (hb hby at_88) k) ?_
     obtain ⟨cq248, kq248, q248a, q248b, q248c⟩ := isOf hZ e247 f245_82
     obtain ⟨_, _, ⟨T248, L248, k248, n248⟩, -, X248, ⟨Lc248, hQ248, l248, y248, z248⟩, st248⟩ := X247.virtualBack hx (y := Y14) (z := Y14) hown (mvT hZ (ww hw 71 rfl)) (mvT hZ (ww hw 72 rfl)) (notFace_of_selects (args := #[]) (mvT hZ (ww hw 74 rfl))) (mvT hZ (ww hw 74 rfl)) (mvT hZ (ww hw 73 rfl)) (by decide) (backOf (W := 0) (rm14_17 l Z a0 hw [] b72_e0 b72_e1 k72_ke1 (lat8 (chA q1)) cs T245.heap n0  f245_82 f245_83 f245_84 f245_85 f245_79 f245_80   ncs ) hZ (ww hw 75 rfl) (ww hw 7 rfl) (by decide) (by decide)) q248a q248c (g := (mkF m 89 (Sh19 q1 q2 q3 q4 q5 1 2 b72_e0 b243_e0 b244 b72_e0) [(.int 0), (.ref b72_e0)])) rfl (by rw [hml]; rfl) (Steps.refl _) (argsL := [(.int (0 : Int32))]) (rest := []) (lenOf pd_28I29C rfl) rfl (by show 2 * 0 + _ ≤ _; exact Nat.le_of_eq rfl) (hb hby at_89) (fun _ _ => ⟨rfl, e247, (by decide : 7 + 0 ≤ _), (by decide : 16 + 0 ≤ _)⟩)
     dsimp only [Pt.U, Pt.locs, Pt.cells, Pt.slots] at X248 l248 y248 z248 st248 hQ248
     subst l248 y248 z248
     obtain ⟨rfl, N248q, e248⟩ := hQ248
     have N248 := Fr.app N247 N248q
     refine GoV.sg (mkF m 92 (Sh19 q1 q2 q3 q4 q5 1 2 b72_e0 b243_e0 b244 b72_e0) [(.int (nar .char (nar .char ((lat8 (chA q1)) &&& (255 : Int32)).toUInt32.toUInt16.toUInt32.toInt32)))]) (fun t k => st248.trans k) ?_
     rw [show (nar .char (nar .char ((lat8 (chA q1)) &&& (255 : Int32)).toUInt32.toUInt16.toUInt32.toInt32)) = (chA q1) from (own_back _ (own_rA q1))]
     refine GoV.sg (mkF m 93 (Sh19 q1 q2 q3 q4 q5 1 2 b72_e0 b243_e0 b244 b72_e0) [(.int q1), (.int (chA q1))]) (fun t k => XS.iloadN X248.here hx rfl (hb hby at_92) rfl k) ?_
     refine GoV.sg (mkF m 96 (Sh19 q1 q2 q3 q4 q5 1 2 b72_e0 b243_e0 b244 b72_e0) [(.int 255), (.int q1), (.int (chA q1))]) (fun t k => XS.sipush X248.here hx rfl (hb hby at_93) k) ?_
     refine GoV.sg (mkF m 97 (Sh19 q1 q2 q3 q4 q5 1 2 b72_e0 b243_e0 b244 b72_e0) [(.int (q1 &&& (255 : Int32))), (.int (chA q1))]) (fun t k => XS.iand X248.here hx rfl (hb hby at_96) rfl k) ?_
     refine GoV.sg (mkF m 98 (Sh19 q1 q2 q3 q4 q5 1 2 b72_e0 b243_e0 b244 b72_e0) [(.int (q1 &&& (255 : Int32)).toUInt32.toUInt16.toUInt32.toInt32), (.int (chA q1))]) (fun t k => XS.i2c X248.here hx rfl (hb hby at_97) rfl k) ?_
     rw [own_cA q1]
     show GoV p e below s (ValQ (.int (1 : Int32)) n0) room_1.cells room_1.slots (T248.setTop (mkF m 98 (Sh19 q1 q2 q3 q4 q5 1 2 b72_e0 b243_e0 b244 b72_e0) [(.int (chA q1)), (.int (chA q1))]))
     refine GoV.sg (mkF m 103 (Sh19 q1 q2 q3 q4 q5 1 2 b72_e0 b243_e0 b244 b72_e0) []) (fun t k => XS.icmpYes X248.here hx rfl (pc0 := 98) (pc' := 103) rfl (hb hby at_98) rfl (teq rfl).1 (by decide) (by decide) k) ?_
     refine GoV.sg (mkF m 105 (Sh19 q1 q2 q3 q4 q5 1 2 b72_e0 b243_e0 b244 b72_e0) [(.int 1)]) (fun t k => XS.iload X248.here hx rfl (hb hby at_103) rfl k) ?_
     refine GoV.sg (mkF m 106 (Sh19 q1 q2 q3 q4 q5 1 2 b72_e0 b243_e0 b244 b72_e0) [(.int 2), (.int 1)]) (fun t k => XS.iconst X248.here hx rfl (hb hby at_105) k) ?_
     refine GoV.sg (mkF m 129 (Sh19 q1 q2 q3 q4 q5 1 2 b72_e0 b243_e0 b244 b72_e0) []) (fun t k => XS.icmpYes X248.here hx rfl (pc0 := 106) (pc' := 129) rfl (hb hby at_106) rfl (by decide) (by decide) (by decide) k) ?_
     refine GoV.sg (mkF m 131 (Sh19 q1 q2 q3 q4 q5 1 2 b72_e0 b243_e0 b244 b72_e0) [(.int 1)]) (fun t k => XS.iload X248.here hx rfl (hb hby at_129) rfl k) ?_
     refine GoV.sg (mkF m 132 (Sh19 q1 q2 q3 q4 q5 1 2 b72_e0 b243_e0 b244 b72_e0) [(.int 3), (.int 1)]) (fun t k => XS.iconst X248.here hx rfl (hb hby at_131) k) ?_
     refine GoV.sg (mkF m 155 (Sh19 q1 q2 q3 q4 q5 1 2 b72_e0 b243_e0 b244 b72_e0) []) (fun t k => XS.icmpYes X248.here hx rfl (pc0 := 132) (pc' := 155) rfl (hb hby at_132) rfl (by decide) (by decide) (by decide) k) ?_
     refine GoV.sg (mkF m 156 (Sh19 q1 q2 q3 q4 q5 1 2 b72_e0 b243_e0 b244 b72_e0) [(.int 1)]) (fun t k => XS.iconst X248.here hx rfl (hb hby at_155) k) ?_
     refine GoV.retN X248 hS0 (by rw [e248]; exact f245_81) hx (t := .boolean) Bd.returns (by simp) (hb hby at_156) Bd.notSynchronized ?_ (by decide) (by decide)
     exact ⟨rfl, N248⟩
    ·show GoV p e below s (ValQ (.int (1 : Int32)) n0) room_1.cells room_1.slots (T247.setTop (mkF m 86 (Sh19 q1 q2 q3 q4 q5 1 2 b72_e0 b243_e0 b244 b72_e0) []))
     refine GoV.sg (mkF m 88 (Sh19 q1 q2 q3 q4 q5 1 2 b72_e0 b243_e0 b244 b72_e0) [(.ref b72_e0)]) (fun t k => XS.aload X247.here hx rfl (hb hby at_86) rfl rfl k) ?_
     refine GoV.sg (mkF m 89 (Sh19 q1 q2 q3 q4 q5 1 2 b72_e0 b243_e0 b244 b72_e0) [(.int 0), (.ref b72_e0)]) (fun t k => XS.iconst X247.here hx rfl (hb hby at_88) k) ?_
     obtain ⟨cq249, kq249, q249a, q249b, q249c⟩ := isOf hZ e247 f245_82
     obtain ⟨_, _, ⟨T249, L249, k249, n249⟩, -, X249, ⟨Lc249, hQ249, l249, y249, z249⟩, st249⟩ := X247.virtualBack hx (y := Y14) (z := Y14) hown (mvT hZ (ww hw 71 rfl)) (mvT hZ (ww hw 72 rfl)) (notFace_of_selects (args := #[]) (mvT hZ (ww hw 74 rfl))) (mvT hZ (ww hw 74 rfl)) (mvT hZ (ww hw 73 rfl)) (by decide) (backOf (W := 0) (rm14_21 l Z a0 hw [] b72_e0 b72_e1 k72_ke1 (lat8 (chA q1)) cs af T245.heap n0  f245_82 f245_83 f245_84 f245_85 f245_79 f245_80   ncs ) hZ (ww hw 75 rfl) (ww hw 7 rfl) (by decide) (by decide)) q249a q249c (g := (mkF m 89 (Sh19 q1 q2 q3 q4 q5 1 2 b72_e0 b243_e0 b244 b72_e0) [(.int 0), (.ref b72_e0)])) rfl (by rw [hml]; rfl) (Steps.refl _) (argsL := [(.int (0 : Int32))]) (rest := []) (lenOf pd_28I29C rfl) rfl (by show 2 * 0 + _ ≤ _; exact Nat.le_of_eq rfl) (hb hby at_89) (fun _ _ => ⟨rfl, e247, (by decide : 7 + 0 ≤ _), (by decide : 16 + 0 ≤ _)⟩)
     dsimp only [Pt.U, Pt.locs, Pt.cells, Pt.slots] at X249 l249 y249 z249 st249 hQ249
     subst l249 y249 z249
     obtain ⟨rfl, N249q, e249⟩ := hQ249
     have N249 := Fr.app N247 N249q
     refine GoV.sg (mkF m 92 (Sh19 q1 q2 q3 q4 q5 1 2 b72_e0 b243_e0 b244 b72_e0) [(.int (nar .char (nar .char ((lat8 (chA q1)) &&& (255 : Int32)).toUInt32.toUInt16.toUInt32.toInt32)))]) (fun t k => st249.trans k) ?_
     rw [show (nar .char (nar .char ((lat8 (chA q1)) &&& (255 : Int32)).toUInt32.toUInt16.toUInt32.toInt32)) = (chA q1) from (own_back _ (own_rA q1))]
     refine GoV.sg (mkF m 93 (Sh19 q1 q2 q3 q4 q5 1 2 b72_e0 b243_e0 b244 b72_e0) [(.int q1), (.int (chA q1))]) (fun t k => XS.iloadN X249.here hx rfl (hb hby at_92) rfl k) ?_
     refine GoV.sg (mkF m 96 (Sh19 q1 q2 q3 q4 q5 1 2 b72_e0 b243_e0 b244 b72_e0) [(.int 255), (.int q1), (.int (chA q1))]) (fun t k => XS.sipush X249.here hx rfl (hb hby at_93) k) ?_
     refine GoV.sg (mkF m 97 (Sh19 q1 q2 q3 q4 q5 1 2 b72_e0 b243_e0 b244 b72_e0) [(.int (q1 &&& (255 : Int32))), (.int (chA q1))]) (fun t k => XS.iand X249.here hx rfl (hb hby at_96) rfl k) ?_
     refine GoV.sg (mkF m 98 (Sh19 q1 q2 q3 q4 q5 1 2 b72_e0 b243_e0 b244 b72_e0) [(.int (q1 &&& (255 : Int32)).toUInt32.toUInt16.toUInt32.toInt32), (.int (chA q1))]) (fun t k => XS.i2c X249.here hx rfl (hb hby at_97) rfl k) ?_
     rw [own_cA q1]
     show GoV p e below s (ValQ (.int (1 : Int32)) n0) room_1.cells room_1.slots (T249.setTop (mkF m 98 (Sh19 q1 q2 q3 q4 q5 1 2 b72_e0 b243_e0 b244 b72_e0) [(.int (chA q1)), (.int (chA q1))]))
     refine GoV.sg (mkF m 103 (Sh19 q1 q2 q3 q4 q5 1 2 b72_e0 b243_e0 b244 b72_e0) []) (fun t k => XS.icmpYes X249.here hx rfl (pc0 := 98) (pc' := 103) rfl (hb hby at_98) rfl (teq rfl).1 (by decide) (by decide) k) ?_
     refine GoV.sg (mkF m 105 (Sh19 q1 q2 q3 q4 q5 1 2 b72_e0 b243_e0 b244 b72_e0) [(.int 1)]) (fun t k => XS.iload X249.here hx rfl (hb hby at_103) rfl k) ?_
     refine GoV.sg (mkF m 106 (Sh19 q1 q2 q3 q4 q5 1 2 b72_e0 b243_e0 b244 b72_e0) [(.int 2), (.int 1)]) (fun t k => XS.iconst X249.here hx rfl (hb hby at_105) k) ?_
     refine GoV.sg (mkF m 129 (Sh19 q1 q2 q3 q4 q5 1 2 b72_e0 b243_e0 b244 b72_e0) []) (fun t k => XS.icmpYes X249.here hx rfl (pc0 := 106) (pc' := 129) rfl (hb hby at_106) rfl (by decide) (by decide) (by decide) k) ?_
     refine GoV.sg (mkF m 131 (Sh19 q1 q2 q3 q4 q5 1 2 b72_e0 b243_e0 b244 b72_e0) [(.int 1)]) (fun t k => XS.iload X249.here hx rfl (hb hby at_129) rfl k) ?_
     refine GoV.sg (mkF m 132 (Sh19 q1 q2 q3 q4 q5 1 2 b72_e0 b243_e0 b244 b72_e0) [(.int 3), (.int 1)]) (fun t k => XS.iconst X249.here hx rfl (hb hby at_131) k) ?_
     refine GoV.sg (mkF m 155 (Sh19 q1 q2 q3 q4 q5 1 2 b72_e0 b243_e0 b244 b72_e0) []) (fun t k => XS.icmpYes X249.here hx rfl (pc0 := 132) (pc' := 155) rfl (hb hby at_132) rfl (by decide) (by decide) (by decide) k) ?_
     refine GoV.sg (mkF m 156 (Sh19 q1 q2 q3 q4 q5 1 2 b72_e0 b243_e0 b244 b72_e0) [(.int 1)]) (fun t k => XS.iconst X249.here hx rfl (hb hby at_155) k) ?_
     refine GoV.retN X249 hS0 (by rw [e249]; exact f245_81) hx (t := .boolean) Bd.returns (by simp) (hb hby at_156) Bd.notSynchronized ?_ (by decide) (by decide)
     exact ⟨rfl, N249⟩
   ·rw [vv]
    show GoV p e below s (ValQ (.int (1 : Int32)) n0) room_1.cells room_1.slots (T72.setTop (mkF m 37 (Sh15 q1 q2 q3 q4 q5 1 3 b72_e0) []))
    refine GoV.sg (mkF m 39 (Sh15 q1 q2 q3 q4 q5 1 3 b72_e0) [(.int 3)]) (fun t k => XS.iload X72.here hx rfl (hb hby at_37) rfl k) ?_
    refine GoV.sg (mkF m 40 (Sh15 q1 q2 q3 q4 q5 1 3 b72_e0) [(.int q2), (.int 3)]) (fun t k => XS.iloadN X72.here hx rfl (hb hby at_39) rfl k) ?_
    obtain ⟨_, T333, L333, X333, hQ333, st333⟩ := own_callS X72 hx hZ hown (y := Y1) (ww hw 1 rfl) (ww hw 2 rfl) (ww hw 3 rfl) (ww hw 4 rfl) (by decide) 0 (rm1_33 l Z a0 hw [] q2 cs T72.heap n0 f72_1 f72_3   ncs ) (by decide) (by decide) rfl (by decide) (by decide) (g := (mkF m 40 (Sh15 q1 q2 q3 q4 q5 1 3 b72_e0) [(.int q2), (.int 3)])) rfl (by rw [hml]; rfl) (argsL := [(.int (3 : Int32)), (.int q2)]) (rest := []) (lenOf pd_28II29Ljava2flang2fString3b rfl) rfl (by show 2 * 0 + _ ≤ _; exact Nat.le_of_eq rfl) (hb hby at_40)
    obtain ⟨b333_e0, b333_e1, k333_ke1, rfl, N333q, K333, p333_0, p333_1, p333_2, p333_3, hz_b333_e0, hz_b333_e1⟩ := hQ333
    have N333 := Fr.app N72 N333q
    have f333_86 := Nat.le_trans f72_1 K333.1
    have f333_88 := own_staK0 f72_3 K333
    have f333_89 := own_staK0 f72_4 K333
    have f333_90 := Nat.le_trans f72_5 K333.1
    have f333_91 := p72_0.keep K333
    have f333_92 := p72_1.keep K333 nin0
    have f333_93 := p72_2.keep K333 nin0
    have f333_94 := p72_3.keep K333 nin0
    refine GoV.sg (mkF m 43 (Sh15 q1 q2 q3 q4 q5 1 3 b72_e0) [(.ref b333_e0)]) (fun t k => st333 t k) ?_
    refine GoV.sg (mkF m 45 (Sh16 q1 q2 q3 q4 q5 1 3 b72_e0 b333_e0) []) (fun t k => XS.astore X333.here hx rfl (hb hby at_43) rfl rfl (l' := (Sh16 q1 q2 q3 q4 q5 1 3 b72_e0 b333_e0)) rfl k) ?_
    obtain ⟨T334, h334, X334, e334, E334, A334, D334, -, st334⟩ := newO X333 hx hZ hown (ww hw 35 rfl) (ww hw 36 rfl) (ww hw 37 rfl) rfl (g := (mkF m 45 (Sh16 q1 q2 q3 q4 q5 1 3 b72_e0 b333_e0) [])) rfl (hb hby at_45) (by decide) (by decide)
    obtain ⟨b334, g334⟩ : ∃ z, z = T333.heap.size := ⟨_, rfl⟩
    rw [← g334] at A334 D334 st334
    have g_b334 : n0 ≤ b334 := Nat.le_trans f333_86 (Nat.le_of_eq g334.symm)
    have ne_b72_e0_b334 : b72_e0 ≠ b334 := Nat.ne_of_lt (Nat.lt_of_lt_of_eq f333_91.lt g334.symm)
    have ne_b72_e1_b334 : b72_e1 ≠ b334 := Nat.ne_of_lt (Nat.lt_of_lt_of_eq f333_94.lt g334.symm)
    have f334_97 := f333_88.ext E334
    have f334_98 := f333_89.ext E334
    have f334_99 := Nat.le_trans f333_90 E334.1
    have f334_100 := f333_91.ext E334
    have f334_101 := f333_92.ext E334
    have f334_102 := f333_93.ext E334
    have f334_103 := f333_94.ext E334
    have F334name : Fld Z h334 b334 "com/example/relaystack/relaystack/CommandLine$Option" "name" "Ljava/lang/String;" .null := D334 (Or.inr (ww hw 48 rfl)) (ty := (.object "java/lang/String")) (by decide)
    have F334given : Fld Z h334 b334 "com/example/relaystack/relaystack/CommandLine$Option" "given" "Ljava/lang/String;" .null := D334 (Or.inr (ww hw 50 rfl)) (ty := (.object "java/lang/String")) (by decide)
    refine GoV.sg (mkF m 48 (Sh16 q1 q2 q3 q4 q5 1 3 b72_e0 b333_e0) [(.ref b334)]) (fun t k => st334 t k) ?_
    refine GoV.sg (mkF m 49 (Sh16 q1 q2 q3 q4 q5 1 3 b72_e0 b333_e0) [(.ref b334), (.ref b334)]) (fun t k => XS.dup X334.here hx rfl (hb hby at_48) rfl rfl k) ?_
    refine GoV.sg (mkF m 51 (Sh16 q1 q2 q3 q4 q5 1 3 b72_e0 b333_e0) [(.ref b333_e0), (.ref b334), (.ref b334)]) (fun t k => XS.aload X334.here hx rfl (hb hby at_49) rfl rfl k) ?_
    refine GoV.sg (mkF m 53 (Sh16 q1 q2 q3 q4 q5 1 3 b72_e0 b333_e0) [(.ref b72_e0), (.ref b333_e0), (.ref b334), (.ref b334)]) (fun t k => XS.aload X334.here hx rfl (hb hby at_51) rfl rfl k) ?_
    obtain ⟨_, _, ⟨T335, L335, k335, n335⟩, -, X335, ⟨Lc335, hQ335, l335, y335, z335⟩, st335⟩ := X334.specialBack hx (y := Y8) rfl hown (mvT hZ (ww hw 38 rfl)) (mvT hZ (ww hw 39 rfl)) (mvT hZ (ww hw 40 rfl)) (by decide) (backOf (W := 1) (rm8_8 l Z a0 hw [] b334 b333_e0 b72_e0  h334 n0  A334 F334given F334name g_b334   ) hZ (ww hw 40 rfl) (ww hw 37 rfl) (by decide) (by decide)) (g := (mkF m 53 (Sh16 q1 q2 q3 q4 q5 1 3 b72_e0 b333_e0) [(.ref b72_e0), (.ref b333_e0), (.ref b334), (.ref b334)])) rfl (by rw [hml]; rfl) (Steps.refl _) (a := b334) (argsL := [(.ref b333_e0), (.ref b72_e0)]) (rest := [(.ref b334)]) (lenOf pd_28Ljava2flang2fString3bLjava2flang2fString3b29V rfl) rfl (by show 2 * 0 + _ ≤ _; exact Nat.le_of_eq rfl) (hb hby at_53) (fun _ _ => ⟨rfl, e334, (by decide : 7 + 0 ≤ _), (by decide : 18 + 0 ≤ _)⟩)
    dsimp only [Pt.U, Pt.locs, Pt.cells, Pt.slots] at X335 l335 y335 z335 st335 hQ335
    subst l335 y335 z335
    obtain ⟨rfl, N335q, K335, p335_0, p335_1, p335_2⟩ := hQ335
    have N335 := Fr.app N333 N335q
    have f335_106 := own_staK f334_97 K335 (allS (own_nsE A334) all0)
    have f335_107 := own_staK f334_98 K335 (allS (own_nsE A334) all0)
    have f335_108 := Nat.le_trans f334_99 K335.1
    have f335_109 := f334_100.keep K335
    have f335_110 := f334_101.keep K335 (ninS ne_b72_e0_b334 nin0)
    have f335_111 := f334_102.keep K335 (ninS ne_b72_e0_b334 nin0)
    have f335_112 := f334_103.keep K335 (ninS ne_b72_e1_b334 nin0)
    refine GoV.sg (mkF m 56 (Sh16 q1 q2 q3 q4 q5 1 3 b72_e0 b333_e0) [(.ref b334)]) (fun t k => st335.trans k) ?_
    refine GoV.sg (mkF m 58 (Sh18 q1 q2 q3 q4 q5 1 3 b72_e0 b333_e0 b334) []) (fun t k => XS.astore X335.here hx rfl (hb hby at_56) rfl rfl (l' := (Sh18 q1 q2 q3 q4 q5 1 3 b72_e0 b333_e0 b334)) rfl k) ?_
    refine GoV.sg (mkF m 60 (Sh18 q1 q2 q3 q4 q5 1 3 b72_e0 b333_e0 b334) [(.ref b334)]) (fun t k => XS.aload X335.here hx rfl (hb hby at_58) rfl rfl k) ?_
    obtain ⟨cq336, kq336, q336a, q336b, q336c⟩ := isOf hZ rfl p335_0
    obtain ⟨_, _, ⟨T336, L336, k336, n336⟩, -, X336, ⟨Lc336, hQ336, l336, y336, z336⟩, st336⟩ := X335.virtualBack hx (y := Y10) (z := Y10) hown (mvT hZ (ww hw 51 rfl)) (mvT hZ (ww hw 52 rfl)) (notFace_of_selects (args := #[]) (mvT hZ (ww hw 54 rfl))) (mvT hZ (ww hw 54 rfl)) (mvT hZ (ww hw 53 rfl)) (by decide) (backOf (W := 0) (rm10_10 l Z a0 hw [] b334 b72_e0 b72_e1 k72_ke1 (lat8 (chA q1)) T335.heap n0  f335_109 p335_1 f335_111 f335_112    ) hZ (ww hw 55 rfl) (ww hw 37 rfl) (by decide) (by decide)) q336a q336c (g := (mkF m 60 (Sh18 q1 q2 q3 q4 q5 1 3 b72_e0 b333_e0 b334) [(.ref b334)])) rfl (by rw [hml]; rfl) (Steps.refl _) (argsL := []) (rest := []) (lenOf pd_2829Ljava2flang2fString3b rfl) rfl (by show 2 * 0 + _ ≤ _; exact Nat.le_of_eq rfl) (hb hby at_60) (fun _ _ => ⟨rfl, rfl, (by decide : 7 + 0 ≤ _), (by decide : 18 + 0 ≤ _)⟩)
    dsimp only [Pt.U, Pt.locs, Pt.cells, Pt.slots] at X336 l336 y336 z336 st336 hQ336
    subst l336 y336 z336
    obtain ⟨rfl, N336q, e336⟩ := hQ336
    have N336 := Fr.app N335 N336q
    refine GoV.sg (mkF m 63 (Sh18 q1 q2 q3 q4 q5 1 3 b72_e0 b333_e0 b334) [(.ref b72_e0)]) (fun t k => st336.trans k) ?_
    refine GoV.sg (mkF m 65 (Sh19 q1 q2 q3 q4 q5 1 3 b72_e0 b333_e0 b334 b72_e0) []) (fun t k => XS.astore X336.here hx rfl (hb hby at_63) rfl rfl (l' := (Sh19 q1 q2 q3 q4 q5 1 3 b72_e0 b333_e0 b334 b72_e0)) rfl k) ?_
    refine GoV.sg (mkF m 67 (Sh19 q1 q2 q3 q4 q5 1 3 b72_e0 b333_e0 b334 b72_e0) [(.ref b72_e0)]) (fun t k => XS.aload X336.here hx rfl (hb hby at_65) rfl rfl k) ?_
    refine GoV.sg (mkF m 69 (Sh19 q1 q2 q3 q4 q5 1 3 b72_e0 b333_e0 b334 b72_e0) [(.ref b72_e0), (.ref b72_e0)]) (fun t k => XS.aload X336.here hx rfl (hb hby at_67) rfl rfl k) ?_
    refine GoV.sg (mkF m 74 (Sh19 q1 q2 q3 q4 q5 1 3 b72_e0 b333_e0 b334 b72_e0) []) (fun t k => Jvm.RoadKit.acmp X336 hx rfl (cd := .eq) (x := (.ref b72_e0)) (y := (.ref b72_e0)) rfl rfl (pc0 := 69) (pc' := 74) (same := true) rfl (hb hby at_69) rfl (decide_eq_true rfl) (by decide) (by decide) k) ?_
    refine GoV.sg (mkF m 76 (Sh19 q1 q2 q3 q4 q5 1 3 b72_e0 b333_e0 b334 b72_e0) [(.ref b72_e0)]) (fun t k => XS.aload X336.here hx rfl (hb hby at_74) rfl rfl k) ?_
    obtain ⟨cq337, kq337, q337a, q337b, q337c⟩ := isOf hZ e336 f335_109
    obtain ⟨_, _, ⟨T337, L337, k337, n337⟩, -, X337, ⟨Lc337, hQ337, l337, y337, z337⟩, st337⟩ := X336.virtualBack hx (y := Y12) (z := Y12) hown (mvT hZ (ww hw 61 rfl)) (mvT hZ (ww hw 62 rfl)) (notFace_of_selects (args := #[]) (mvT hZ (ww hw 64 rfl))) (mvT hZ (ww hw 64 rfl)) (mvT hZ (ww hw 63 rfl)) (by decide) (backOf (W := 0) (rm12_12 l Z a0 hw [] b72_e0 b72_e1 k72_ke1 (lat8 (chA q1)) cs T335.heap n0  f335_109 f335_110 f335_111 f335_112 f335_106   ncs ) hZ (ww hw 65 rfl) (ww hw 7 rfl) (by decide) (by decide)) q337a q337c (g := (mkF m 76 (Sh19 q1 q2 q3 q4 q5 1 3 b72_e0 b333_e0 b334 b72_e0) [(.ref b72_e0)])) rfl (by rw [hml]; rfl) (Steps.refl _) (argsL := []) (rest := []) (lenOf pd_2829I rfl) rfl (by show 2 * 0 + _ ≤ _; exact Nat.le_of_eq rfl) (hb hby at_76) (fun _ _ => ⟨rfl, e336, (by decide : 7 + 0 ≤ _), (by decide : 18 + 0 ≤ _)⟩)
    dsimp only [Pt.U, Pt.locs, Pt.cells, Pt.slots] at X337 l337 y337 z337 st337 hQ337
    subst l337 y337 z337
    obtain ⟨rfl, N337q, e337⟩ := hQ337
    have N337 := Fr.app N336 N337q
    refine GoV.sg (mkF m 79 (Sh19 q1 q2 q3 q4 q5 1 3 b72_e0 b333_e0 b334 b72_e0) [(.int 1)]) (fun t k => st337.trans k) ?_
    refine GoV.sg (mkF m 81 (Sh19 q1 q2 q3 q4 q5 1 3 b72_e0 b333_e0 b334 b72_e0) [(.int 1), (.int 1)]) (fun t k => XS.iload X337.here hx rfl (hb hby at_79) rfl k) ?_
    refine GoV.sg (mkF m 86 (Sh19 q1 q2 q3 q4 q5 1 3 b72_e0 b333_e0 b334 b72_e0) []) (fun t k => XS.icmpYes X337.here hx rfl (pc0 := 81) (pc' := 86) rfl (hb hby at_81) rfl (by decide) (by decide) (by decide) k) ?_
    rcases ref_cases hvf with rfl | ⟨af, rfl⟩
    ·show GoV p e below s (ValQ (.int (1 : Int32)) n0) room_1.cells room_1.slots (T337.setTop (mkF m 86 (Sh19 q1 q2 q3 q4 q5 1 3 b72_e0 b333_e0 b334 b72_e0) []))
     refine GoV.sg (mkF m 88 (Sh19 q1 q2 q3 q4 q5 1 3 b72_e0 b333_e0 b334 b72_e0) [(.ref b72_e0)]) (fun t k => XS.aload X337.here hx rfl (hb hby at_86) rfl rfl k) ?_
     refine GoV.sg (mkF m 89 (Sh19 q1 q2 q3 q4 q5 1 3 b72_e0 b333_e0 b334 b72_e0) [(.int 0), (.ref b72_e0)]) (fun t k => XS.iconst X337.here hx rfl (hb hby at_88) k) ?_
     obtain ⟨cq338, kq338, q338a, q338b, q338c⟩ := isOf hZ e337 f335_109
     obtain ⟨_, _, ⟨T338, L338, k338, n338⟩, -, X338, ⟨Lc338, hQ338, l338, y338, z338⟩, st338⟩ := X337.virtualBack hx (y := Y14) (z := Y14) hown (mvT hZ (ww hw 71 rfl)) (mvT hZ (ww hw 72 rfl)) (notFace_of_selects (args := #[]) (mvT hZ (ww hw 74 rfl))) (mvT hZ (ww hw 74 rfl)) (mvT hZ (ww hw 73 rfl)) (by decide) (backOf (W := 0) (rm14_17 l Z a0 hw [] b72_e0 b72_e1 k72_ke1 (lat8 (chA q1)) cs T335.heap n0  f335_109 f335_110 f335_111 f335_112 f335_106 f335_107   ncs ) hZ (ww hw 75 rfl) (ww hw 7 rfl) (by decide) (by decide)) q338a q338c (g := (mkF m 89 (Sh19 q1 q2 q3 q4 q5 1 3 b72_e0 b333_e0 b334 b72_e0) [(.int 0), (.ref b72_e0)])) rfl (by rw [hml]; rfl) (Steps.refl _) (argsL := [(.int (0 : Int32))]) (rest := []) (lenOf pd_28I29C rfl) rfl (by show 2 * 0 + _ ≤ _; exact Nat.le_of_eq rfl) (hb hby at_89) (fun _ _ => ⟨rfl, e337, (by decide : 7 + 0 ≤ _), (by decide : 18 + 0 ≤ _)⟩)
     dsimp only [Pt.U, Pt.locs, Pt.cells, Pt.slots] at X338 l338 y338 z338 st338 hQ338
     subst l338 y338 z338
     obtain ⟨rfl, N338q, e338⟩ := hQ338
     have N338 := Fr.app N337 N338q
     refine GoV.sg (mkF m 92 (Sh19 q1 q2 q3 q4 q5 1 3 b72_e0 b333_e0 b334 b72_e0) [(.int (nar .char (nar .char ((lat8 (chA q1)) &&& (255 : Int32)).toUInt32.toUInt16.toUInt32.toInt32)))]) (fun t k => st338.trans k) ?_
     rw [show (nar .char (nar .char ((lat8 (chA q1)) &&& (255 : Int32)).toUInt32.toUInt16.toUInt32.toInt32)) = (chA q1) from (own_back _ (own_rA q1))]
     refine GoV.sg (mkF m 93 (Sh19 q1 q2 q3 q4 q5 1 3 b72_e0 b333_e0 b334 b72_e0) [(.int q1), (.int (chA q1))]) (fun t k => XS.iloadN X338.here hx rfl (hb hby at_92) rfl k) ?_
     refine GoV.sg (mkF m 96 (Sh19 q1 q2 q3 q4 q5 1 3 b72_e0 b333_e0 b334 b72_e0) [(.int 255), (.int q1), (.int (chA q1))]) (fun t k => XS.sipush X338.here hx rfl (hb hby at_93) k) ?_
     refine GoV.sg (mkF m 97 (Sh19 q1 q2 q3 q4 q5 1 3 b72_e0 b333_e0 b334 b72_e0) [(.int (q1 &&& (255 : Int32))), (.int (chA q1))]) (fun t k => XS.iand X338.here hx rfl (hb hby at_96) rfl k) ?_
     refine GoV.sg (mkF m 98 (Sh19 q1 q2 q3 q4 q5 1 3 b72_e0 b333_e0 b334 b72_e0) [(.int (q1 &&& (255 : Int32)).toUInt32.toUInt16.toUInt32.toInt32), (.int (chA q1))]) (fun t k => XS.i2c X338.here hx rfl (hb hby at_97) rfl k) ?_
     rw [own_cA q1]
     show GoV p e below s (ValQ (.int (1 : Int32)) n0) room_1.cells room_1.slots (T338.setTop (mkF m 98 (Sh19 q1 q2 q3 q4 q5 1 3 b72_e0 b333_e0 b334 b72_e0) [(.int (chA q1)), (.int (chA q1))]))
     refine GoV.sg (mkF m 103 (Sh19 q1 q2 q3 q4 q5 1 3 b72_e0 b333_e0 b334 b72_e0) []) (fun t k => XS.icmpYes X338.here hx rfl (pc0 := 98) (pc' := 103) rfl (hb hby at_98) rfl (teq rfl).1 (by decide) (by decide) k) ?_
     refine GoV.sg (mkF m 105 (Sh19 q1 q2 q3 q4 q5 1 3 b72_e0 b333_e0 b334 b72_e0) [(.int 1)]) (fun t k => XS.iload X338.here hx rfl (hb hby at_103) rfl k) ?_
     refine GoV.sg (mkF m 106 (Sh19 q1 q2 q3 q4 q5 1 3 b72_e0 b333_e0 b334 b72_e0) [(.int 2), (.int 1)]) (fun t k => XS.iconst X338.here hx rfl (hb hby at_105) k) ?_
     refine GoV.sg (mkF m 129 (Sh19 q1 q2 q3 q4 q5 1 3 b72_e0 b333_e0 b334 b72_e0) []) (fun t k => XS.icmpYes X338.here hx rfl (pc0 := 106) (pc' := 129) rfl (hb hby at_106) rfl (by decide) (by decide) (by decide) k) ?_
     refine GoV.sg (mkF m 131 (Sh19 q1 q2 q3 q4 q5 1 3 b72_e0 b333_e0 b334 b72_e0) [(.int 1)]) (fun t k => XS.iload X338.here hx rfl (hb hby at_129) rfl k) ?_
     refine GoV.sg (mkF m 132 (Sh19 q1 q2 q3 q4 q5 1 3 b72_e0 b333_e0 b334 b72_e0) [(.int 3), (.int 1)]) (fun t k => XS.iconst X338.here hx rfl (hb hby at_131) k) ?_
     refine GoV.sg (mkF m 155 (Sh19 q1 q2 q3 q4 q5 1 3 b72_e0 b333_e0 b334 b72_e0) []) (fun t k => XS.icmpYes X338.here hx rfl (pc0 := 132) (pc' := 155) rfl (hb hby at_132) rfl (by decide) (by decide) (by decide) k) ?_
     refine GoV.sg (mkF m 156 (Sh19 q1 q2 q3 q4 q5 1 3 b72_e0 b333_e0 b334 b72_e0) [(.int 1)]) (fun t k => XS.iconst X338.here hx rfl (hb hby at_155) k) ?_
     refine GoV.retN X338 hS0 (by rw [e338]; exact f335_108) hx (t := .boolean) Bd.returns (by simp) (hb hby at_156) Bd.notSynchronized ?_ (by decide) (by decide)
     exact ⟨rfl, N338⟩
    ·show GoV p e below s (ValQ (.int (1 : Int32)) n0) room_1.cells room_1.slots (T337.setTop (mkF m 86 (Sh19 q1 q2 q3 q4 q5 1 3 b72_e0 b333_e0 b334 b72_e0) []))
     refine GoV.sg (mkF m 88 (Sh19 q1 q2 q3 q4 q5 1 3 b72_e0 b333_e0 b334 b72_e0) [(.ref b72_e0)]) (fun t k => XS.aload X337.here hx rfl (hb hby at_86) rfl rfl k) ?_
     refine GoV.sg (mkF m 89 (Sh19 q1 q2 q3 q4 q5 1 3 b72_e0 b333_e0 b334 b72_e0) [(.int 0), (.ref b72_e0)]) (fun t k => XS.iconst X337.here hx rfl (hb hby at_88) k) ?_
     obtain ⟨cq339, kq339, q339a, q339b, q339c⟩ := isOf hZ e337 f335_109
     obtain ⟨_, _, ⟨T339, L339, k339, n339⟩, -, X339, ⟨Lc339, hQ339, l339, y339, z339⟩, st339⟩ := X337.virtualBack hx (y := Y14) (z := Y14) hown (mvT hZ (ww hw 71 rfl)) (mvT hZ (ww hw 72 rfl)) (notFace_of_selects (args := #[]) (mvT hZ (ww hw 74 rfl))) (mvT hZ (ww hw 74 rfl)) (mvT hZ (ww hw 73 rfl)) (by decide) (backOf (W := 0) (rm14_21 l Z a0 hw [] b72_e0 b72_e1 k72_ke1 (lat8 (chA q1)) cs af T335.heap n0  f335_109 f335_110 f335_111 f335_112 f335_106 f335_107   ncs ) hZ (ww hw 75 rfl) (ww hw 7 rfl) (by decide) (by decide)) q339a q339c (g := (mkF m 89 (Sh19 q1 q2 q3 q4 q5 1 3 b72_e0 b333_e0 b334 b72_e0) [(.int 0), (.ref b72_e0)])) rfl (by rw [hml]; rfl) (Steps.refl _) (argsL := [(.int (0 : Int32))]) (rest := []) (lenOf pd_28I29C rfl) rfl (by show 2 * 0 + _ ≤ _; exact Nat.le_of_eq rfl) (hb hby at_89) (fun _ _ => ⟨rfl, e337, (by decide : 7 + 0 ≤ _), (by decide : 18 + 0 ≤ _)⟩)
     dsimp only [Pt.U, Pt.locs, Pt.cells, Pt.slots] at X339 l339 y339 z339 st339 hQ339
     subst l339 y339 z339
     obtain ⟨rfl, N339q, e339⟩ := hQ339
     have N339 := Fr.app N337 N339q
     refine GoV.sg (mkF m 92 (Sh19 q1 q2 q3 q4 q5 1 3 b72_e0 b333_e0 b334 b72_e0) [(.int (nar .char (nar .char ((lat8 (chA q1)) &&& (255 : Int32)).toUInt32.toUInt16.toUInt32.toInt32)))]) (fun t k => st339.trans k) ?_
     rw [show (nar .char (nar .char ((lat8 (chA q1)) &&& (255 : Int32)).toUInt32.toUInt16.toUInt32.toInt32)) = (chA q1) from (own_back _ (own_rA q1))]
     refine GoV.sg (mkF m 93 (Sh19 q1 q2 q3 q4 q5 1 3 b72_e0 b333_e0 b334 b72_e0) [(.int q1), (.int (chA q1))]) (fun t k => XS.iloadN X339.here hx rfl (hb hby at_92) rfl k) ?_
     refine GoV.sg (mkF m 96 (Sh19 q1 q2 q3 q4 q5 1 3 b72_e0 b333_e0 b334 b72_e0) [(.int 255), (.int q1), (.int (chA q1))]) (fun t k => XS.sipush X339.here hx rfl (hb hby at_93) k) ?_
     refine GoV.sg (mkF m 97 (Sh19 q1 q2 q3 q4 q5 1 3 b72_e0 b333_e0 b334 b72_e0) [(.int (q1 &&& (255 : Int32))), (.int (chA q1))]) (fun t k => XS.iand X339.here hx rfl (hb hby at_96) rfl k) ?_
     refine GoV.sg (mkF m 98 (Sh19 q1 q2 q3 q4 q5 1 3 b72_e0 b333_e0 b334 b72_e0) [(.int (q1 &&& (255 : Int32)).toUInt32.toUInt16.toUInt32.toInt32), (.int (chA q1))]) (fun t k => XS.i2c X339.here hx rfl (hb hby at_97) rfl k) ?_
     rw [own_cA q1]
     show GoV p e below s (ValQ (.int (1 : Int32)) n0) room_1.cells room_1.slots (T339.setTop (mkF m 98 (Sh19 q1 q2 q3 q4 q5 1 3 b72_e0 b333_e0 b334 b72_e0) [(.int (chA q1)), (.int (chA q1))]))
     refine GoV.sg (mkF m 103 (Sh19 q1 q2 q3 q4 q5 1 3 b72_e0 b333_e0 b334 b72_e0) []) (fun t k => XS.icmpYes X339.here hx rfl (pc0 := 98) (pc' := 103) rfl (hb hby at_98) rfl (teq rfl).1 (by decide) (by decide) k) ?_
     refine GoV.sg (mkF m 105 (Sh19 q1 q2 q3 q4 q5 1 3 b72_e0 b333_e0 b334 b72_e0) [(.int 1)]) (fun t k => XS.iload X339.here hx rfl (hb hby at_103) rfl k) ?_
     refine GoV.sg (mkF m 106 (Sh19 q1 q2 q3 q4 q5 1 3 b72_e0 b333_e0 b334 b72_e0) [(.int 2), (.int 1)]) (fun t k => XS.iconst X339.here hx rfl (hb hby at_105) k) ?_
     refine GoV.sg (mkF m 129 (Sh19 q1 q2 q3 q4 q5 1 3 b72_e0 b333_e0 b334 b72_e0) []) (fun t k => XS.icmpYes X339.here hx rfl (pc0 := 106) (pc' := 129) rfl (hb hby at_106) rfl (by decide) (by decide) (by decide) k) ?_
     refine GoV.sg (mkF m 131 (Sh19 q1 q2 q3 q4 q5 1 3 b72_e0 b333_e0 b334 b72_e0) [(.int 1)]) (fun t k => XS.iload X339.here hx rfl (hb hby at_129) rfl k) ?_
     refine GoV.sg (mkF m 132 (Sh19 q1 q2 q3 q4 q5 1 3 b72_e0 b333_e0 b334 b72_e0) [(.int 3), (.int 1)]) (fun t k => XS.iconst X339.here hx rfl (hb hby at_131) k) ?_
     refine GoV.sg (mkF m 155 (Sh19 q1 q2 q3 q4 q5 1 3 b72_e0 b333_e0 b334 b72_e0) []) (fun t k => XS.icmpYes X339.here hx rfl (pc0 := 132) (pc' := 155) rfl (hb hby at_132) rfl (by decide) (by decide) (by decide) k) ?_
     refine GoV.sg (mkF m 156 (Sh19 q1 q2 q3 q4 q5 1 3 b72_e0 b333_e0 b334 b72_e0) [(.int 1)]) (fun t k => XS.iconst X339.here hx rfl (hb hby at_155) k) ?_
     refine GoV.retN X339 hS0 (by rw [e339]; exact f335_108) hx (t := .boolean) Bd.returns (by simp) (hb hby at_156) Bd.notSynchronized ?_ (by decide) (by decide)
     exact ⟨rfl, N339⟩
  ·refine GoV.sg (mkF m 33 (Sh15 q1 q2 q3 q4 q5 1 ((q4 &&& (2147483647 : Int32)) % (4 : Int32)) b72_e0) []) (fun t k => XS.ifNo X72.here hx rfl (hb hby at_30) rfl ((if0 _ _).trans (feq c73).1) k) ?_
   refine GoV.sg (mkF m 34 (Sh15 q1 q2 q3 q4 q5 1 ((q4 &&& (2147483647 : Int32)) % (4 : Int32)) b72_e0) [.null]) (fun t k => XS.aconstNull X72.here hx rfl (hb hby at_33) k) ?_
   refine GoV.sg (mkF m 43 (Sh15 q1 q2 q3 q4 q5 1 ((q4 &&& (2147483647 : Int32)) % (4 : Int32)) b72_e0) [.null]) (fun t k => XS.goto X72.here hx rfl (pc0 := 34) (pc' := 43) rfl (hb hby at_34) (by decide) (by decide) k) ?_
   refine GoV.sg (mkF m 45 (Sh22 q1 q2 q3 q4 q5 1 ((q4 &&& (2147483647 : Int32)) % (4 : Int32)) b72_e0) []) (fun t k => XS.astore X72.here hx rfl (hb hby at_43) rfl rfl (l' := (Sh22 q1 q2 q3 q4 q5 1 ((q4 &&& (2147483647 : Int32)) % (4 : Int32)) b72_e0)) rfl k) ?_
   obtain ⟨T340, h340, X340, e340, E340, A340, D340, -, st340⟩ := newO X72 hx hZ hown (ww hw 35 rfl) (ww hw 36 rfl) (ww hw 37 rfl) rfl (g := (mkF m 45 (Sh22 q1 q2 q3 q4 q5 1 ((q4 &&& (2147483647 : Int32)) % (4 : Int32)) b72_e0) [])) rfl (hb hby at_45) (by decide) (by decide)
   obtain ⟨b340, g340⟩ : ∃ z, z = T72.heap.size := ⟨_, rfl⟩
   rw [← g340] at A340 D340 st340
   have g_b340 : n0 ≤ b340 := Nat.le_trans f72_1 (Nat.le_of_eq g340.symm)
   have ne_b72_e0_b340 : b72_e0 ≠ b340 := Nat.ne_of_lt (Nat.lt_of_lt_of_eq p72_0.lt g340.symm)
   have ne_b72_e1_b340 : b72_e1 ≠ b340 := Nat.ne_of_lt (Nat.lt_of_lt_of_eq p72_3.lt g340.symm)
   have f340_115 := f72_3.ext E340
   have f340_116 := f72_4.ext E340
   have f340_117 := Nat.le_trans f72_5 E340.1
   have f340_118 := p72_0.ext E340
   have f340_119 := p72_1.ext E340
   have f340_120 := p72_2.ext E340
   have f340_121 := p72_3.ext E340
   have F340name : Fld Z h340 b340 "com/example/relaystack/relaystack/CommandLine$Option" "name" "Ljava/lang/String;" .null := D340 (Or.inr (ww hw 48 rfl)) (ty := (.object "java/lang/String")) (by decide)
   have F340given : Fld Z h340 b340 "com/example/relaystack/relaystack/CommandLine$Option" "given" "Ljava/lang/String;" .null := D340 (Or.inr (ww hw 50 rfl)) (ty := (.object "java/lang/String")) (by decide)
   refine GoV.sg (mkF m 48 (Sh22 q1 q2 q3 q4 q5 1 ((q4 &&& (2147483647 : Int32)) % (4 : Int32)) b72_e0) [(.ref b340)]) (fun t k => st340 t k) ?_
   refine GoV.sg (mkF m 49 (Sh22 q1 q2 q3 q4 q5 1 ((q4 &&& (2147483647 : Int32)) % (4 : Int32)) b72_e0) [(.ref b340), (.ref b340)]) (fun t k => XS.dup X340.here hx rfl (hb hby at_48) rfl rfl k) ?_
   refine GoV.sg (mkF m 51 (Sh22 q1 q2 q3 q4 q5 1 ((q4 &&& (2147483647 : Int32)) % (4 : Int32)) b72_e0) [.null, (.ref b340), (.ref b340)]) (fun t k => XS.aload X340.here hx rfl (hb hby at_49) rfl rfl k) ?_
   refine GoV.sg (mkF m 53 (Sh22 q1 q2 q3 q4 q5 1 ((q4 &&& (2147483647 : Int32)) % (4 : Int32)) b72_e0) [(.ref b72_e0), .null, (.ref b340), (.ref b340)]) (fun t k => XS.aload X340.here hx rfl (hb hby at_51) rfl rfl k) ?_
   obtain ⟨_, _, ⟨T347, L347, k347, n347⟩, -, X347, ⟨Lc347, hQ347, l347, y347, z347⟩, st347⟩ := X340.specialBack hx (y := Y8) rfl hown (mvT hZ (ww hw 38 rfl)) (mvT hZ (ww hw 39 rfl)) (mvT hZ (ww hw 40 rfl)) (by decide) (backOf (W := 1) (rm8_34 l Z a0 hw [] b340 b72_e0  h340 n0  A340 F340given F340name g_b340   ) hZ (ww hw 40 rfl) (ww hw 37 rfl) (by decide) (by decide)) (g := (mkF m 53 (Sh22 q1 q2 q3 q4 q5 1 ((q4 &&& (2147483647 : Int32)) % (4 : Int32)) b72_e0) [(.ref b72_e0), .null, (.ref b340), (.ref b340)])) rfl (by rw [hml]; rfl) (Steps.refl _) (a := b340) (argsL := [.null, (.ref b72_e0)]) (rest := [(.ref b340)]) (lenOf pd_28Ljava2flang2fString3bLjava2flang2fString3b29V rfl) rfl (by show 2 * 0 + _ ≤ _; exact Nat.le_of_eq rfl) (hb hby at_53) (fun _ _ => ⟨rfl, e340, (by decide : 4 + 0 ≤ _), (by decide : 8 + 0 ≤ _)⟩)
   dsimp only [Pt.U, Pt.locs, Pt.cells, Pt.slots] at X347 l347 y347 z347 st347 hQ347
   subst l347 y347 z347
   obtain ⟨rfl, N347q, K347, p347_0, p347_1, p347_2⟩ := hQ347
   have N347 := Fr.app N72 N347q
   have f347_124 := own_staK f340_115 K347 (allS (own_nsE A340) all0)
   have f347_125 := own_staK f340_116 K347 (allS (own_nsE A340) all0)
   have f347_126 := Nat.le_trans f340_117 K347.1
   have f347_127 := f340_118.keep K347
   have f347_128 := f340_119.keep K347 (ninS ne_b72_e0_b340 nin0)
   have f347_129 := f340_120.keep K347 (ninS ne_b72_e0_b340 nin0)
   have f347_130 := f340_121.keep K347 (ninS ne_b72_e1_b340 nin0)
   refine GoV.sg (mkF m 56 (Sh22 q1 q2 q3 q4 q5 1 ((q4 &&& (2147483647 : Int32)) % (4 : Int32)) b72_e0) [(.ref b340)]) (fun t k => st347.trans k) ?_
   refine GoV.sg (mkF m 58 (Sh24 q1 q2 q3 q4 q5 1 ((q4 &&& (2147483647 : Int32)) % (4 : Int32)) b72_e0 b340) []) (fun t k => XS.astore X347.here hx rfl (hb hby at_56) rfl rfl (l' := (Sh24 q1 q2 q3 q4 q5 1 ((q4 &&& (2147483647 : Int32)) % (4 : Int32)) b72_e0 b340)) rfl k) ?_
   refine GoV.sg (mkF m 60 (Sh24 q1 q2 q3 q4 q5 1 ((q4 &&& (2147483647 : Int32)) % (4 : Int32)) b72_e0 b340) [(.ref b340)]) (fun t k => XS.aload X347.here hx rfl (hb hby at_58) rfl rfl k) ?_
   obtain ⟨cq352, kq352, q352a, q352b, q352c⟩ := isOf hZ rfl p347_0
   obtain ⟨_, _, ⟨T352, L352, k352, n352⟩, -, X352, ⟨Lc352, hQ352, l352, y352, z352⟩, st352⟩ := X347.virtualBack hx (y := Y10) (z := Y10) hown (mvT hZ (ww hw 51 rfl)) (mvT hZ (ww hw 52 rfl)) (notFace_of_selects (args := #[]) (mvT hZ (ww hw 54 rfl))) (mvT hZ (ww hw 54 rfl)) (mvT hZ (ww hw 53 rfl)) (by decide) (backOf (W := 0) (rm10_10 l Z a0 hw [] b340 b72_e0 b72_e1 k72_ke1 (lat8 (chA q1)) T347.heap n0  f347_127 p347_1 f347_129 f347_130    ) hZ (ww hw 55 rfl) (ww hw 37 rfl) (by decide) (by decide)) q352a q352c (g := (mkF m 60 (Sh24 q1 q2 q3 q4 q5 1 ((q4 &&& (2147483647 : Int32)) % (4 : Int32)) b72_e0 b340) [(.ref b340)])) rfl (by rw [hml]; rfl) (Steps.refl _) (argsL := []) (rest := []) (lenOf pd_2829Ljava2flang2fString3b rfl) rfl (by show 2 * 0 + _ ≤ _; exact Nat.le_of_eq rfl) (hb hby at_60) (fun _ _ => ⟨rfl, rfl, (by decide : 4 + 0 ≤ _), (by decide : 8 + 0 ≤ _)⟩)
   dsimp only [Pt.U, Pt.locs, Pt.cells, Pt.slots] at X352 l352 y352 z352 st352 hQ352
   subst l352 y352 z352
   obtain ⟨rfl, N352q, e352⟩ := hQ352
   have N352 := Fr.app N347 N352q
   refine GoV.sg (mkF m 63 (Sh24 q1 q2 q3 q4 q5 1 ((q4 &&& (2147483647 : Int32)) % (4 : Int32)) b72_e0 b340) [(.ref b72_e0)]) (fun t k => st352.trans k) ?_
   refine GoV.sg (mkF m 65 (Sh25 q1 q2 q3 q4 q5 1 ((q4 &&& (2147483647 : Int32)) % (4 : Int32)) b72_e0 b340 b72_e0) []) (fun t k => XS.astore X352.here hx rfl (hb hby at_63) rfl rfl (l' := (Sh25 q1 q2 q3 q4 q5 1 ((q4 &&& (2147483647 : Int32)) % (4 : Int32)) b72_e0 b340 b72_e0)) rfl k) ?_
   refine GoV.sg (mkF m 67 (Sh25 q1 q2 q3 q4 q5 1 ((q4 &&& (2147483647 : Int32)) % (4 : Int32)) b72_e0 b340 b72_e0) [(.ref b72_e0)]) (fun t k => XS.aload X352.here hx rfl (hb hby at_65) rfl rfl k) ?_
   refine GoV.sg (mkF m 69 (Sh25 q1 q2 q3 q4 q5 1 ((q4 &&& (2147483647 : Int32)) % (4 : Int32)) b72_e0 b340 b72_e0) [(.ref b72_e0), (.ref b72_e0)]) (fun t k => XS.aload X352.here hx rfl (hb hby at_67) rfl rfl k) ?_
   refine GoV.sg (mkF m 74 (Sh25 q1 q2 q3 q4 q5 1 ((q4 &&& (2147483647 : Int32)) % (4 : Int32)) b72_e0 b340 b72_e0) []) (fun t k => Jvm.RoadKit.acmp X352 hx rfl (cd := .eq) (x := (.ref b72_e0)) (y := (.ref b72_e0)) rfl rfl (pc0 := 69) (pc' := 74) (same := true) rfl (hb hby at_69) rfl (decide_eq_true rfl) (by decide) (by decide) k) ?_
   refine GoV.sg (mkF m 76 (Sh25 q1 q2 q3 q4 q5 1 ((q4 &&& (2147483647 : Int32)) % (4 : Int32)) b72_e0 b340 b72_e0) [(.ref b72_e0)]) (fun t k => XS.aload X352.here hx rfl (hb hby at_74) rfl rfl k) ?_
   obtain ⟨cq353, kq353, q353a, q353b, q353c⟩ := isOf hZ e352 f347_127
   obtain ⟨_, _, ⟨T353, L353, k353, n353⟩, -, X353, ⟨Lc353, hQ353, l353, y353, z353⟩, st353⟩ := X352.virtualBack hx (y := Y12) (z := Y12) hown (mvT hZ (ww hw 61 rfl)) (mvT hZ (ww hw 62 rfl)) (notFace_of_selects (args := #[]) (mvT hZ (ww hw 64 rfl))) (mvT hZ (ww hw 64 rfl)) (mvT hZ (ww hw 63 rfl)) (by decide) (backOf (W := 0) (rm12_12 l Z a0 hw [] b72_e0 b72_e1 k72_ke1 (lat8 (chA q1)) cs T347.heap n0  f347_127 f347_128 f347_129 f347_130 f347_124   ncs ) hZ (ww hw 65 rfl) (ww hw 7 rfl) (by decide) (by decide)) q353a q353c (g := (mkF m 76 (Sh25 q1 q2 q3 q4 q5 1 ((q4 &&& (2147483647 : Int32)) % (4 : Int32)) b72_e0 b340 b72_e0) [(.ref b72_e0)])) rfl (by rw [hml]; rfl) (Steps.refl _) (argsL := []) (rest := []) (lenOf pd_2829I rfl) rfl (by show 2 * 0 + _ ≤ _; exact Nat.le_of_eq rfl) (hb hby at_76) (fun _ _ => ⟨rfl, e352, (by decide : 4 + 0 ≤ _), (by decide : 8 + 0 ≤ _)⟩)
   dsimp only [Pt.U, Pt.locs, Pt.cells, Pt.slots] at X353 l353 y353 z353 st353 hQ353
   subst l353 y353 z353
   obtain ⟨rfl, N353q, e353⟩ := hQ353
   have N353 := Fr.app N352 N353q
   refine GoV.sg (mkF m 79 (Sh25 q1 q2 q3 q4 q5 1 ((q4 &&& (2147483647 : Int32)) % (4 : Int32)) b72_e0 b340 b72_e0) [(.int 1)]) (fun t k => st353.trans k) ?_
   refine GoV.sg (mkF m 81 (Sh25 q1 q2 q3 q4 q5 1 ((q4 &&& (2147483647 : Int32)) % (4 : Int32)) b72_e0 b340 b72_e0) [(.int 1), (.int 1)]) (fun t k => XS.iload X353.here hx rfl (hb hby at_79) rfl k) ?_
   refine GoV.sg (mkF m 86 (Sh25 q1 q2 q3 q4 q5 1 ((q4 &&& (2147483647 : Int32)) % (4 : Int32)) b72_e0 b340 b72_e0) []) (fun t k => XS.icmpYes X353.here hx rfl (pc0 := 81) (pc' := 86) rfl (hb hby at_81) rfl (by decide) (by decide) (by decide) k) ?_
   rcases ref_cases hvf with rfl | ⟨af, rfl⟩
   ·show GoV p e below s (ValQ (.int (1 : Int32)) n0) room_1.cells room_1.slots (T353.setTop (mkF m 86 (Sh25 q1 q2 q3 q4 q5 1 ((q4 &&& (2147483647 : Int32)) % (4 : Int32)) b72_e0 b340 b72_e0) []))
    refine GoV.sg (mkF m 88 (Sh25 q1 q2 q3 q4 q5 1 ((q4 &&& (2147483647 : Int32)) % (4 : Int32)) b72_e0 b340 b72_e0) [(.ref b72_e0)]) (fun t k => XS.aload X353.here hx rfl (hb hby at_86) rfl rfl k) ?_
    refine GoV.sg (mkF m 89 (Sh25 q1 q2 q3 q4 q5 1 ((q4 &&& (2147483647 : Int32)) % (4 : Int32)) b72_e0 b340 b72_e0) [(.int 0), (.ref b72_e0)]) (fun t k => XS.iconst X353.here hx rfl (hb hby at_88) k) ?_
    obtain ⟨cq354, kq354, q354a, q354b, q354c⟩ := isOf hZ e353 f347_127
    obtain ⟨_, _, ⟨T354, L354, k354, n354⟩, -, X354, ⟨Lc354, hQ354, l354, y354, z354⟩, st354⟩ := X353.virtualBack hx (y := Y14) (z := Y14) hown (mvT hZ (ww hw 71 rfl)) (mvT hZ (ww hw 72 rfl)) (notFace_of_selects (args := #[]) (mvT hZ (ww hw 74 rfl))) (mvT hZ (ww hw 74 rfl)) (mvT hZ (ww hw 73 rfl)) (by decide) (backOf (W := 0) (rm14_17 l Z a0 hw [] b72_e0 b72_e1 k72_ke1 (lat8 (chA q1)) cs T347.heap n0  f347_127 f347_128 f347_129 f347_130 f347_124 f347_125   ncs ) hZ (ww hw 75 rfl) (ww hw 7 rfl) (by decide) (by decide)) q354a q354c (g := (mkF m 89 (Sh25 q1 q2 q3 q4 q5 1 ((q4 &&& (2147483647 : Int32)) % (4 : Int32)) b72_e0 b340 b72_e0) [(.int 0), (.ref b72_e0)])) rfl (by rw [hml]; rfl) (Steps.refl _) (argsL := [(.int (0 : Int32))]) (rest := []) (lenOf pd_28I29C rfl) rfl (by show 2 * 0 + _ ≤ _; exact Nat.le_of_eq rfl) (hb hby at_89) (fun _ _ => ⟨rfl, e353, (by decide : 4 + 0 ≤ _), (by decide : 8 + 0 ≤ _)⟩)
    dsimp only [Pt.U, Pt.locs, Pt.cells, Pt.slots] at X354 l354 y354 z354 st354 hQ354
    subst l354 y354 z354
    obtain ⟨rfl, N354q, e354⟩ := hQ354
    have N354 := Fr.app N353 N354q
    refine GoV.sg (mkF m 92 (Sh25 q1 q2 q3 q4 q5 1 ((q4 &&& (2147483647 : Int32)) % (4 : Int32)) b72_e0 b340 b72_e0) [(.int (nar .char (nar .char ((lat8 (chA q1)) &&& (255 : Int32)).toUInt32.toUInt16.toUInt32.toInt32)))]) (fun t k => st354.trans k) ?_
    rw [show (nar .char (nar .char ((lat8 (chA q1)) &&& (255 : Int32)).toUInt32.toUInt16.toUInt32.toInt32)) = (chA q1) from (own_back _ (own_rA q1))]
    refine GoV.sg (mkF m 93 (Sh25 q1 q2 q3 q4 q5 1 ((q4 &&& (2147483647 : Int32)) % (4 : Int32)) b72_e0 b340 b72_e0) [(.int q1), (.int (chA q1))]) (fun t k => XS.iloadN X354.here hx rfl (hb hby at_92) rfl k) ?_
    refine GoV.sg (mkF m 96 (Sh25 q1 q2 q3 q4 q5 1 ((q4 &&& (2147483647 : Int32)) % (4 : Int32)) b72_e0 b340 b72_e0) [(.int 255), (.int q1), (.int (chA q1))]) (fun t k => XS.sipush X354.here hx rfl (hb hby at_93) k) ?_
    refine GoV.sg (mkF m 97 (Sh25 q1 q2 q3 q4 q5 1 ((q4 &&& (2147483647 : Int32)) % (4 : Int32)) b72_e0 b340 b72_e0) [(.int (q1 &&& (255 : Int32))), (.int (chA q1))]) (fun t k => XS.iand X354.here hx rfl (hb hby at_96) rfl k) ?_
    refine GoV.sg (mkF m 98 (Sh25 q1 q2 q3 q4 q5 1 ((q4 &&& (2147483647 : Int32)) % (4 : Int32)) b72_e0 b340 b72_e0) [(.int (q1 &&& (255 : Int32)).toUInt32.toUInt16.toUInt32.toInt32), (.int (chA q1))]) (fun t k => XS.i2c X354.here hx rfl (hb hby at_97) rfl k) ?_
    rw [own_cA q1]
    show GoV p e below s (ValQ (.int (1 : Int32)) n0) room_1.cells room_1.slots (T354.setTop (mkF m 98 (Sh25 q1 q2 q3 q4 q5 1 ((q4 &&& (2147483647 : Int32)) % (4 : Int32)) b72_e0 b340 b72_e0) [(.int (chA q1)), (.int (chA q1))]))
    refine GoV.sg (mkF m 103 (Sh25 q1 q2 q3 q4 q5 1 ((q4 &&& (2147483647 : Int32)) % (4 : Int32)) b72_e0 b340 b72_e0) []) (fun t k => XS.icmpYes X354.here hx rfl (pc0 := 98) (pc' := 103) rfl (hb hby at_98) rfl (teq rfl).1 (by decide) (by decide) k) ?_
    refine GoV.sg (mkF m 105 (Sh25 q1 q2 q3 q4 q5 1 ((q4 &&& (2147483647 : Int32)) % (4 : Int32)) b72_e0 b340 b72_e0) [(.int 1)]) (fun t k => XS.iload X354.here hx rfl (hb hby at_103) rfl k) ?_
    refine GoV.sg (mkF m 106 (Sh25 q1 q2 q3 q4 q5 1 ((q4 &&& (2147483647 : Int32)) % (4 : Int32)) b72_e0 b340 b72_e0) [(.int 2), (.int 1)]) (fun t k => XS.iconst X354.here hx rfl (hb hby at_105) k) ?_
    refine GoV.sg (mkF m 129 (Sh25 q1 q2 q3 q4 q5 1 ((q4 &&& (2147483647 : Int32)) % (4 : Int32)) b72_e0 b340 b72_e0) []) (fun t k => XS.icmpYes X354.here hx rfl (pc0 := 106) (pc' := 129) rfl (hb hby at_106) rfl (by decide) (by decide) (by decide) k) ?_
    refine GoV.sg (mkF m 131 (Sh25 q1 q2 q3 q4 q5 1 ((q4 &&& (2147483647 : Int32)) % (4 : Int32)) b72_e0 b340 b72_e0) [(.int 1)]) (fun t k => XS.iload X354.here hx rfl (hb hby at_129) rfl k) ?_
    refine GoV.sg (mkF m 132 (Sh25 q1 q2 q3 q4 q5 1 ((q4 &&& (2147483647 : Int32)) % (4 : Int32)) b72_e0 b340 b72_e0) [(.int 3), (.int 1)]) (fun t k => XS.iconst X354.here hx rfl (hb hby at_131) k) ?_
    refine GoV.sg (mkF m 155 (Sh25 q1 q2 q3 q4 q5 1 ((q4 &&& (2147483647 : Int32)) % (4 : Int32)) b72_e0 b340 b72_e0) []) (fun t k => XS.icmpYes X354.here hx rfl (pc0 := 132) (pc' := 155) rfl (hb hby at_132) rfl (by decide) (by decide) (by decide) k) ?_
    refine GoV.sg (mkF m 156 (Sh25 q1 q2 q3 q4 q5 1 ((q4 &&& (2147483647 : Int32)) % (4 : Int32)) b72_e0 b340 b72_e0) [(.int 1)]) (fun t k => XS.iconst X354.here hx rfl (hb hby at_155) k) ?_
    refine GoV.retN X354 hS0 (by rw [e354]; exact f347_126) hx (t := .boolean) Bd.returns (by simp) (hb hby at_156) Bd.notSynchronized ?_ (by decide) (by decide)
    exact ⟨rfl, N354⟩
   ·show GoV p e below s (ValQ (.int (1 : Int32)) n0) room_1.cells room_1.slots (T353.setTop (mkF m 86 (Sh25 q1 q2 q3 q4 q5 1 ((q4 &&& (2147483647 : Int32)) % (4 : Int32)) b72_e0 b340 b72_e0) []))
    refine GoV.sg (mkF m 88 (Sh25 q1 q2 q3 q4 q5 1 ((q4 &&& (2147483647 : Int32)) % (4 : Int32)) b72_e0 b340 b72_e0) [(.ref b72_e0)]) (fun t k => XS.aload X353.here hx rfl (hb hby at_86) rfl rfl k) ?_
    refine GoV.sg (mkF m 89 (Sh25 q1 q2 q3 q4 q5 1 ((q4 &&& (2147483647 : Int32)) % (4 : Int32)) b72_e0 b340 b72_e0) [(.int 0), (.ref b72_e0)]) (fun t k => XS.iconst X353.here hx rfl (hb hby at_88) k) ?_
    obtain ⟨cq355, kq355, q355a, q355b, q355c⟩ := isOf hZ e353 f347_127
    obtain ⟨_, _, ⟨T355, L355, k355, n355⟩, -, X355, ⟨Lc355, hQ355, l355, y355, z355⟩, st355⟩ := X353.virtualBack hx (y := Y14) (z := Y14) hown (mvT hZ (ww hw 71 rfl)) (mvT hZ (ww hw 72 rfl)) (notFace_of_selects (args := #[]) (mvT hZ (ww hw 74 rfl))) (mvT hZ (ww hw 74 rfl)) (mvT hZ (ww hw 73 rfl)) (by decide) (backOf (W := 0) (rm14_21 l Z a0 hw [] b72_e0 b72_e1 k72_ke1 (lat8 (chA q1)) cs af T347.heap n0  f347_127 f347_128 f347_129 f347_130 f347_124 f347_125   ncs ) hZ (ww hw 75 rfl) (ww hw 7 rfl) (by decide) (by decide)) q355a q355c (g := (mkF m 89 (Sh25 q1 q2 q3 q4 q5 1 ((q4 &&& (2147483647 : Int32)) % (4 : Int32)) b72_e0 b340 b72_e0) [(.int 0), (.ref b72_e0)])) rfl (by rw [hml]; rfl) (Steps.refl _) (argsL := [(.int (0 : Int32))]) (rest := []) (lenOf pd_28I29C rfl) rfl (by show 2 * 0 + _ ≤ _; exact Nat.le_of_eq rfl) (hb hby at_89) (fun _ _ => ⟨rfl, e353, (by decide : 4 + 0 ≤ _), (by decide : 8 + 0 ≤ _)⟩)
    dsimp only [Pt.U, Pt.locs, Pt.cells, Pt.slots] at X355 l355 y355 z355 st355 hQ355
    subst l355 y355 z355
    obtain ⟨rfl, N355q, e355⟩ := hQ355
    have N355 := Fr.app N353 N355q
    refine GoV.sg (mkF m 92 (Sh25 q1 q2 q3 q4 q5 1 ((q4 &&& (2147483647 : Int32)) % (4 : Int32)) b72_e0 b340 b72_e0) [(.int (nar .char (nar .char ((lat8 (chA q1)) &&& (255 : Int32)).toUInt32.toUInt16.toUInt32.toInt32)))]) (fun t k => st355.trans k) ?_
    rw [show (nar .char (nar .char ((lat8 (chA q1)) &&& (255 : Int32)).toUInt32.toUInt16.toUInt32.toInt32)) = (chA q1) from (own_back _ (own_rA q1))]
    refine GoV.sg (mkF m 93 (Sh25 q1 q2 q3 q4 q5 1 ((q4 &&& (2147483647 : Int32)) % (4 : Int32)) b72_e0 b340 b72_e0) [(.int q1), (.int (chA q1))]) (fun t k => XS.iloadN X355.here hx rfl (hb hby at_92) rfl k) ?_
    refine GoV.sg (mkF m 96 (Sh25 q1 q2 q3 q4 q5 1 ((q4 &&& (2147483647 : Int32)) % (4 : Int32)) b72_e0 b340 b72_e0) [(.int 255), (.int q1), (.int (chA q1))]) (fun t k => XS.sipush X355.here hx rfl (hb hby at_93) k) ?_
    refine GoV.sg (mkF m 97 (Sh25 q1 q2 q3 q4 q5 1 ((q4 &&& (2147483647 : Int32)) % (4 : Int32)) b72_e0 b340 b72_e0) [(.int (q1 &&& (255 : Int32))), (.int (chA q1))]) (fun t k => XS.iand X355.here hx rfl (hb hby at_96) rfl k) ?_
    refine GoV.sg (mkF m 98 (Sh25 q1 q2 q3 q4 q5 1 ((q4 &&& (2147483647 : Int32)) % (4 : Int32)) b72_e0 b340 b72_e0) [(.int (q1 &&& (255 : Int32)).toUInt32.toUInt16.toUInt32.toInt32), (.int (chA q1))]) (fun t k => XS.i2c X355.here hx rfl (hb hby at_97) rfl k) ?_
    rw [own_cA q1]
    show GoV p e below s (ValQ (.int (1 : Int32)) n0) room_1.cells room_1.slots (T355.setTop (mkF m 98 (Sh25 q1 q2 q3 q4 q5 1 ((q4 &&& (2147483647 : Int32)) % (4 : Int32)) b72_e0 b340 b72_e0) [(.int (chA q1)), (.int (chA q1))]))
    refine GoV.sg (mkF m 103 (Sh25 q1 q2 q3 q4 q5 1 ((q4 &&& (2147483647 : Int32)) % (4 : Int32)) b72_e0 b340 b72_e0) []) (fun t k => XS.icmpYes X355.here hx rfl (pc0 := 98) (pc' := 103) rfl (hb hby at_98) rfl (teq rfl).1 (by decide) (by decide) k) ?_
    refine GoV.sg (mkF m 105 (Sh25 q1 q2 q3 q4 q5 1 ((q4 &&& (2147483647 : Int32)) % (4 : Int32)) b72_e0 b340 b72_e0) [(.int 1)]) (fun t k => XS.iload X355.here hx rfl (hb hby at_103) rfl k) ?_
    refine GoV.sg (mkF m 106 (Sh25 q1 q2 q3 q4 q5 1 ((q4 &&& (2147483647 : Int32)) % (4 : Int32)) b72_e0 b340 b72_e0) [(.int 2), (.int 1)]) (fun t k => XS.iconst X355.here hx rfl (hb hby at_105) k) ?_
    refine GoV.sg (mkF m 129 (Sh25 q1 q2 q3 q4 q5 1 ((q4 &&& (2147483647 : Int32)) % (4 : Int32)) b72_e0 b340 b72_e0) []) (fun t k => XS.icmpYes X355.here hx rfl (pc0 := 106) (pc' := 129) rfl (hb hby at_106) rfl (by decide) (by decide) (by decide) k) ?_
    refine GoV.sg (mkF m 131 (Sh25 q1 q2 q3 q4 q5 1 ((q4 &&& (2147483647 : Int32)) % (4 : Int32)) b72_e0 b340 b72_e0) [(.int 1)]) (fun t k => XS.iload X355.here hx rfl (hb hby at_129) rfl k) ?_
    refine GoV.sg (mkF m 132 (Sh25 q1 q2 q3 q4 q5 1 ((q4 &&& (2147483647 : Int32)) % (4 : Int32)) b72_e0 b340 b72_e0) [(.int 3), (.int 1)]) (fun t k => XS.iconst X355.here hx rfl (hb hby at_131) k) ?_
    refine GoV.sg (mkF m 155 (Sh25 q1 q2 q3 q4 q5 1 ((q4 &&& (2147483647 : Int32)) % (4 : Int32)) b72_e0 b340 b72_e0) []) (fun t k => XS.icmpYes X355.here hx rfl (pc0 := 132) (pc' := 155) rfl (hb hby at_132) rfl (by decide) (by decide) (by decide) k) ?_
    refine GoV.sg (mkF m 156 (Sh25 q1 q2 q3 q4 q5 1 ((q4 &&& (2147483647 : Int32)) % (4 : Int32)) b72_e0 b340 b72_e0) [(.int 1)]) (fun t k => XS.iconst X355.here hx rfl (hb hby at_155) k) ?_
    refine GoV.retN X355 hS0 (by rw [e355]; exact f347_126) hx (t := .boolean) Bd.returns (by simp) (hb hby at_156) Bd.notSynchronized ?_ (by decide) (by decide)
    exact ⟨rfl, N355⟩
 ·rw [vv]
  show GoV p e below s (ValQ (.int (1 : Int32)) n0) room_1.cells room_1.slots (s₁.setTop (mkF m 10 (Sh6 q1 q2 q3 q4 q5 2) []))
  refine GoV.sg (mkF m 11 (Sh6 q1 q2 q3 q4 q5 2) [(.int q4)]) (fun t k => XS.iloadN X0.here hx rfl (hb hby at_10) rfl k) ?_
  refine GoV.sg (mkF m 13 (Sh6 q1 q2 q3 q4 q5 2) [(.int 2147483647), (.int q4)]) (fun t k => X0.ldcInt hx hown (mvT hZ (ww hw 0 rfl)) (g := (mkF m 11 (Sh6 q1 q2 q3 q4 q5 2) [(.int q4)])) rfl (hb hby at_11) t k) ?_
  refine GoV.sg (mkF m 14 (Sh6 q1 q2 q3 q4 q5 2) [(.int (q4 &&& (2147483647 : Int32)))]) (fun t k => XS.iand X0.here hx rfl (hb hby at_13) rfl k) ?_
  refine GoV.sg (mkF m 15 (Sh6 q1 q2 q3 q4 q5 2) [(.int 4), (.int (q4 &&& (2147483647 : Int32)))]) (fun t k => XS.iconst X0.here hx rfl (hb hby at_14) k) ?_
  refine GoV.sg (mkF m 16 (Sh6 q1 q2 q3 q4 q5 2) [(.int ((q4 &&& (2147483647 : Int32)) % (4 : Int32)))]) (fun t k => iremM X0 hx rfl (hb hby at_15) rfl (by decide) k) ?_
  refine GoV.sg (mkF m 18 (Sh7 q1 q2 q3 q4 q5 2 ((q4 &&& (2147483647 : Int32)) % (4 : Int32))) []) (fun t k => XS.istore X0.here hx rfl (hb hby at_16) rfl (l' := (Sh7 q1 q2 q3 q4 q5 2 ((q4 &&& (2147483647 : Int32)) % (4 : Int32)))) rfl k) ?_
  refine GoV.sg (mkF m 20 (Sh7 q1 q2 q3 q4 q5 2 ((q4 &&& (2147483647 : Int32)) % (4 : Int32))) [(.int 2)]) (fun t k => XS.iload X0.here hx rfl (hb hby at_18) rfl k) ?_
  refine GoV.sg (mkF m 21 (Sh7 q1 q2 q3 q4 q5 2 ((q4 &&& (2147483647 : Int32)) % (4 : Int32))) [(.int q1), (.int 2)]) (fun t k => XS.iloadN X0.here hx rfl (hb hby at_20) rfl k) ?_
  obtain ⟨_, T356, L356, X356, hQ356, st356⟩ := own_callS X0 hx hZ hown (y := Y1) (ww hw 1 rfl) (ww hw 2 rfl) (ww hw 3 rfl) (ww hw 4 rfl) (by decide) 0 (rm1_27 l Z a0 hw [] q1 cs h0 n0 Z0 PC   ncs ) (by decide) (by decide) e0 (by decide) (by decide) (g := (mkF m 21 (Sh7 q1 q2 q3 q4 q5 2 ((q4 &&& (2147483647 : Int32)) % (4 : Int32))) [(.int q1), (.int 2)])) rfl (by rw [hml]; rfl) (argsL := [(.int (2 : Int32)), (.int q1)]) (rest := []) (lenOf pd_28II29Ljava2flang2fString3b rfl) rfl (by show 2 * 0 + _ ≤ _; exact Nat.le_of_eq rfl) (hb hby at_21)
  obtain ⟨b356_e0, b356_e1, k356_ke1, rfl, N356q, K356, p356_0, p356_1, p356_2, p356_3, hz_b356_e0, hz_b356_e1⟩ := hQ356
  have N356 := Fr.app N0 N356q
  have f356_131 := Nat.le_trans Z0 K356.1
  have f356_132 := O0.keep K356 all0
  have f356_133 := own_staK0 PC K356
  have f356_134 := own_staK0 PF K356
  have f356_135 := Nat.le_trans (Nat.zero_le _) K356.1
  refine GoV.sg (mkF m 24 (Sh7 q1 q2 q3 q4 q5 2 ((q4 &&& (2147483647 : Int32)) % (4 : Int32))) [(.ref b356_e0)]) (fun t k => st356 t k) ?_
  refine GoV.sg (mkF m 26 (Sh15 q1 q2 q3 q4 q5 2 ((q4 &&& (2147483647 : Int32)) % (4 : Int32)) b356_e0) []) (fun t k => XS.astore X356.here hx rfl (hb hby at_24) rfl rfl (l' := (Sh15 q1 q2 q3 q4 q5 2 ((q4 &&& (2147483647 : Int32)) % (4 : Int32)) b356_e0)) rfl k) ?_
  refine GoV.sg (mkF m 28 (Sh15 q1 q2 q3 q4 q5 2 ((q4 &&& (2147483647 : Int32)) % (4 : Int32)) b356_e0) [(.int q5)]) (fun t k => XS.iload X356.here hx rfl (hb hby at_26) rfl k) ?_
  refine GoV.sg (mkF m 29 (Sh15 q1 q2 q3 q4 q5 2 ((q4 &&& (2147483647 : Int32)) % (4 : Int32)) b356_e0) [(.int 1), (.int q5)]) (fun t k => XS.iconst X356.here hx rfl (hb hby at_28) k) ?_
  refine GoV.sg (mkF m 30 (Sh15 q1 q2 q3 q4 q5 2 ((q4 &&& (2147483647 : Int32)) % (4 : Int32)) b356_e0) [(.int (q5 &&& (1 : Int32)))]) (fun t k => XS.iand X356.here hx rfl (hb hby at_29) rfl k) ?_
  by_cases c357 : (q5 &&& (1 : Int32)) = (0 : Int32)
  ·refine GoV.sg (mkF m 37 (Sh15 q1 q2 q3 q4 q5 2 ((q4 &&& (2147483647 : Int32)) % (4 : Int32)) b356_e0) []) (fun t k => XS.ifYes X356.here hx rfl (pc0 := 30) (pc' := 37) rfl (hb hby at_30) rfl ((if0 _ _).trans (teq c357).1) (by decide) (by decide) k) ?_
   rcases own_mod4 q4 with vv | vv | vv | vv
   ·rw [vv]
    show GoV p e below s (ValQ (.int (1 : Int32)) n0) room_1.cells room_1.slots (T356.setTop (mkF m 37 (Sh15 q1 q2 q3 q4 q5 2 0 b356_e0) []))
    refine GoV.sg (mkF m 39 (Sh15 q1 q2 q3 q4 q5 2 0 b356_e0) [(.int 0)]) (fun t k => XS.iload X356.here hx rfl (hb hby at_37) rfl k) ?_
    refine GoV.sg (mkF m 40 (Sh15 q1 q2 q3 q4 q5 2 0 b356_e0) [(.int q2), (.int 0)]) (fun t k => XS.iloadN X356.here hx rfl (hb hby at_39) rfl k) ?_
    obtain ⟨_, T358, L358, X358, hS358, hZ358, hown358, hQ358, st358⟩ := own_callU X356 hx hZ hS0 f356_135 hown (y := Y1) (ww hw 1 rfl) (ww hw 2 rfl) (ww hw 3 rfl) (ww hw 4 rfl) (by decide) 0 (PV := fun vm => IB Z vm []) (rmE0 l Z a0 hw [] q2  T356.heap n0 f356_131      f356_132 hc_7 hcw) (fun vm1 q => own_ibW I0 q.interned_eq) (by decide) (by decide) rfl (by decide) (by decide) (g := (mkF m 40 (Sh15 q1 q2 q3 q4 q5 2 0 b356_e0) [(.int q2), (.int 0)])) rfl (by rw [hml]; rfl) (argsL := [(.int (0 : Int32)), (.int q2)]) (rest := []) (lenOf pd_28II29Ljava2flang2fString3b rfl) rfl (by show 2 * 0 + _ ≤ _; exact Nat.le_of_eq rfl) (hb hby at_40)
    obtain ⟨b358_e0, rfl, N358q, K358⟩ := hQ358
    have N358 := Fr.app N356 N358q
    have f358_136 := Nat.le_trans f356_131 K358.1
    have f358_138 := own_staK0 f356_133 K358
    have f358_139 := own_staK0 f356_134 K358
    have f358_140 := p356_0.keep K358
    have f358_141 := p356_1.keep K358 nin0
    have f358_142 := p356_2.keep K358 nin0
    have f358_143 := p356_3.keep K358 nin0
    refine GoV.sg (mkF m 43 (Sh15 q1 q2 q3 q4 q5 2 0 b356_e0) [(.ref b358_e0)]) (fun t k => st358 t k) ?_
    refine GoV.sg (mkF m 45 (Sh16 q1 q2 q3 q4 q5 2 0 b356_e0 b358_e0) []) (fun t k => XS.astore X358.here hx rfl (hb hby at_43) rfl rfl (l' := (Sh16 q1 q2 q3 q4 q5 2 0 b356_e0 b358_e0)) rfl k) ?_
    obtain ⟨T359, h359, X359, e359, E359, A359, D359, -, st359⟩ := newO X358 hx hZ358 hown358 (ww hw 35 rfl) (ww hw 36 rfl) (ww hw 37 rfl) rfl (g := (mkF m 45 (Sh16 q1 q2 q3 q4 q5 2 0 b356_e0 b358_e0) [])) rfl (hb hby at_45) (by decide) (by decide)
    obtain ⟨b359, g359⟩ : ∃ z, z = T358.heap.size := ⟨_, rfl⟩
    rw [← g359] at A359 D359 st359
    have g_b359 : n0 ≤ b359 := Nat.le_trans f358_136 (Nat.le_of_eq g359.symm)
    have ne_b356_e0_b359 : b356_e0 ≠ b359 := Nat.ne_of_lt (Nat.lt_of_lt_of_eq f358_140.lt g359.symm)
    have ne_b356_e1_b359 : b356_e1 ≠ b359 := Nat.ne_of_lt (Nat.lt_of_lt_of_eq f358_143.lt g359.symm)
    have f359_146 := f358_138.ext E359
    have f359_147 := f358_139.ext E359
    have f359_148 := f358_140.ext E359
    have f359_149 := f358_141.ext E359
    have f359_150 := f358_142.ext E359
    have f359_151 := f358_143.ext E359
    have f359_152 := Nat.le_trans (Nat.le_refl _) E359.1
    have F359name : Fld Z h359 b359 "com/example/relaystack/relaystack/CommandLine$Option" "name" "Ljava/lang/String;" .null := D359 (Or.inr (ww hw 48 rfl)) (ty := (.object "java/lang/String")) (by decide)
    have F359given : Fld Z h359 b359 "com/example/relaystack/relaystack/CommandLine$Option" "given" "Ljava/lang/String;" .null := D359 (Or.inr (ww hw 50 rfl)) (ty := (.object "java/lang/String")) (by decide)
    refine GoV.sg (mkF m 48 (Sh16 q1 q2 q3 q4 q5 2 0 b356_e0 b358_e0) [(.ref b359)]) (fun t k => st359 t k) ?_
    refine GoV.sg (mkF m 49 (Sh16 q1 q2 q3 q4 q5 2 0 b356_e0 b358_e0) [(.ref b359), (.ref b359)]) (fun t k => XS.dup X359.here hx rfl (hb hby at_48) rfl rfl k) ?_
    refine GoV.sg (mkF m 51 (Sh16 q1 q2 q3 q4 q5 2 0 b356_e0 b358_e0) [(.ref b358_e0), (.ref b359), (.ref b359)]) (fun t k => XS.aload X359.here hx rfl (hb hby at_49) rfl rfl k) ?_
    refine GoV.sg (mkF m 53 (Sh16 q1 q2 q3 q4 q5 2 0 b356_e0 b358_e0) [(.ref b356_e0), (.ref b358_e0), (.ref b359), (.ref b359)]) (fun t k => XS.aload X359.here hx rfl (hb hby at_51) rfl rfl k) ?_
    obtain ⟨_, _, ⟨T363, L363, k363, n363⟩, -, X363, ⟨Lc363, hQ363, l363, y363, z363⟩, st363⟩ := X359.specialBack hx (y := Y8) rfl hown358 (mvT hZ358 (ww hw 38 rfl)) (mvT hZ358 (ww hw 39 rfl)) (mvT hZ358 (ww hw 40 rfl)) (by decide) (backOf (W := 1) (rm8_8 l Z a0 hw [] b359 b358_e0 b356_e0  h359 n0  A359 F359given F359name g_b359   ) hZ358 (ww hw 40 rfl) (ww hw 37 rfl) (by decide) (by decide)) (g := (mkF m 53 (Sh16 q1 q2 q3 q4 q5 2 0 b356_e0 b358_e0) [(.ref b356_e0), (.ref b358_e0), (.ref b359), (.ref b359)])) rfl (by rw [hml]; rfl) (Steps.refl _) (a := b359) (argsL := [(.ref b358_e0), (.ref b356_e0)]) (rest := [(.ref b359)]) (lenOf pd_28Ljava2flang2fString3bLjava2flang2fString3b29V rfl) rfl (by show 2 * 0 + _ ≤ _; exact Nat.le_of_eq rfl) (hb hby at_53) (fun _ _ => ⟨rfl, e359, (by decide : 8 + 0 ≤ _), (by decide : 18 + 0 ≤ _)⟩)
    dsimp only [Pt.U, Pt.locs, Pt.cells, Pt.slots] at X363 l363 y363 z363 st363 hQ363
    subst l363 y363 z363
    obtain ⟨rfl, N363q, K363, p363_0, p363_1, p363_2⟩ := hQ363
    have N363 := Fr.app N358 N363q
    have f363_155 := own_staK f359_146 K363 (allS (own_nsE A359) all0)
    have f363_156 := own_staK f359_147 K363 (allS (own_nsE A359) all0)
    have f363_157 := f359_148.keep K363
    have f363_158 := f359_149.keep K363 (ninS ne_b356_e0_b359 nin0)
    have f363_159 := f359_150.keep K363 (ninS ne_b356_e0_b359 nin0)
    have f363_160 := f359_151.keep K363 (ninS ne_b356_e1_b359 nin0)
    have f363_161 := Nat.le_trans f359_152 K363.1
    refine GoV.sg (mkF m 56 (Sh16 q1 q2 q3 q4 q5 2 0 b356_e0 b358_e0) [(.ref b359)]) (fun t k => st363.trans k) ?_
    refine GoV.sg (mkF m 58 (Sh18 q1 q2 q3 q4 q5 2 0 b356_e0 b358_e0 b359) []) (fun t k => XS.astore X363.here hx rfl (hb hby at_56) rfl rfl (l' := (Sh18 q1 q2 q3 q4 q5 2 0 b356_e0 b358_e0 b359)) rfl k) ?_
    refine GoV.sg (mkF m 60 (Sh18 q1 q2 q3 q4 q5 2 0 b356_e0 b358_e0 b359) [(.ref b359)]) (fun t k => XS.aload X363.here hx rfl (hb hby at_58) rfl rfl k) ?_
    obtain ⟨cq378, kq378, q378a, q378b, q378c⟩ := isOf hZ358 rfl p363_0
    obtain ⟨_, _, ⟨T378, L378, k378, n378⟩, -, X378, ⟨Lc378, hQ378, l378, y378, z378⟩, st378⟩ := X363.virtualBack hx (y := Y10) (z := Y10) hown358 (mvT hZ358 (ww hw 51 rfl)) (mvT hZ358 (ww hw 52 rfl)) (notFace_of_selects (args := #[]) (mvT hZ358 (ww hw 54 rfl))) (mvT hZ358 (ww hw 54 rfl)) (mvT hZ358 (ww hw 53 rfl)) (by decide) (backOf (W := 0) (rm10_36 l Z a0 hw [] b359 b356_e0 b356_e1 k356_ke1 (lat8 (chA q1)) (lat8 (chB q1)) T363.heap n0  f363_157 p363_1 f363_159 f363_160    ) hZ358 (ww hw 55 rfl) (ww hw 37 rfl) (by decide) (by decide)) q378a q378c (g := (mkF m 60 (Sh18 q1 q2 q3 q4 q5 2 0 b356_e0 b358_e0 b359) [(.ref b359)])) rfl (by rw [hml]; rfl) (Steps.refl _) (argsL := []) (rest := []) (lenOf pd_2829Ljava2flang2fString3b rfl) rfl (by show 2 * 0 + _ ≤ _; exact Nat.le_of_eq rfl) (hb hby at_60) (fun _ _ => ⟨rfl, rfl, (by decide : 8 + 0 ≤ _), (by decide : 18 + 0 ≤ _)⟩)
    dsimp only [Pt.U, Pt.locs, Pt.cells, Pt.slots] at X378 l378 y378 z378 st378 hQ378
    subst l378 y378 z378
    obtain ⟨rfl, N378q, e378⟩ := hQ378
    have N378 := Fr.app N363 N378q
    refine GoV.sg (mkF m 63 (Sh18 q1 q2 q3 q4 q5 2 0 b356_e0 b358_e0 b359) [(.ref b356_e0)]) (fun t k => st378.trans k) ?_
    refine GoV.sg (mkF m 65 (Sh19 q1 q2 q3 q4 q5 2 0 b356_e0 b358_e0 b359 b356_e0) []) (fun t k => XS.astore X378.here hx rfl (hb hby at_63) rfl rfl (l' := (Sh19 q1 q2 q3 q4 q5 2 0 b356_e0 b358_e0 b359 b356_e0)) rfl k) ?_
    refine GoV.sg (mkF m 67 (Sh19 q1 q2 q3 q4 q5 2 0 b356_e0 b358_e0 b359 b356_e0) [(.ref b356_e0)]) (fun t k => XS.aload X378.here hx rfl (hb hby at_65) rfl rfl k) ?_
    refine GoV.sg (mkF m 69 (Sh19 q1 q2 q3 q4 q5 2 0 b356_e0 b358_e0 b359 b356_e0) [(.ref b356_e0), (.ref b356_e0)]) (fun t k => XS.aload X378.here hx rfl (hb hby at_67) rfl rfl k) ?_
    refine GoV.sg (mkF m 74 (Sh19 q1 q2 q3 q4 q5 2 0 b356_e0 b358_e0 b359 b356_e0) []) (fun t k => Jvm.RoadKit.acmp X378 hx rfl (cd := .eq) (x := (.ref b356_e0)) (y := (.ref b356_e0)) rfl rfl (pc0 := 69) (pc' := 74) (same := true) rfl (hb hby at_69) rfl (decide_eq_true rfl) (by decide) (by decide) k) ?_
    refine GoV.sg (mkF m 76 (Sh19 q1 q2 q3 q4 q5 2 0 b356_e0 b358_e0 b359 b356_e0) [(.ref b356_e0)]) (fun t k => XS.aload X378.here hx rfl (hb hby at_74) rfl rfl k) ?_
    obtain ⟨cq389, kq389, q389a, q389b, q389c⟩ := isOf hZ358 e378 f363_157
    obtain ⟨_, _, ⟨T389, L389, k389, n389⟩, -, X389, ⟨Lc389, hQ389, l389, y389, z389⟩, st389⟩ := X378.virtualBack hx (y := Y12) (z := Y12) hown358 (mvT hZ358 (ww hw 61 rfl)) (mvT hZ358 (ww hw 62 rfl)) (notFace_of_selects (args := #[]) (mvT hZ358 (ww hw 64 rfl))) (mvT hZ358 (ww hw 64 rfl)) (mvT hZ358 (ww hw 63 rfl)) (by decide) (backOf (W := 0) (rm12_37 l Z a0 hw [] b356_e0 b356_e1 k356_ke1 (lat8 (chA q1)) (lat8 (chB q1)) cs T363.heap n0  f363_157 f363_158 f363_159 f363_160 f363_155   ncs ) hZ358 (ww hw 65 rfl) (ww hw 7 rfl) (by decide) (by decide)) q389a q389c (g := (mkF m 76 (Sh19 q1 q2 q3 q4 q5 2 0 b356_e0 b358_e0 b359 b356_e0) [(.ref b356_e0)])) rfl (by rw [hml]; rfl) (Steps.refl _) (argsL := []) (rest := []) (lenOf pd_2829I rfl) rfl (by show 2 * 0 + _ ≤ _; exact Nat.le_of_eq rfl) (hb hby at_76) (fun _ _ => ⟨rfl, e378, (by decide : 8 + 0 ≤ _), (by decide : 18 + 0 ≤ _)⟩)
    dsimp only [Pt.U, Pt.locs, Pt.cells, Pt.slots] at X389 l389 y389 z389 st389 hQ389
    subst l389 y389 z389
    obtain ⟨rfl, N389q, e389⟩ := hQ389
    have N389 := Fr.app N378 N389q
    refine GoV.sg (mkF m 79 (Sh19 q1 q2 q3 q4 q5 2 0 b356_e0 b358_e0 b359 b356_e0) [(.int 2)]) (fun t k => st389.trans k) ?_
    refine GoV.sg (mkF m 81 (Sh19 q1 q2 q3 q4 q5 2 0 b356_e0 b358_e0 b359 b356_e0) [(.int 2), (.int 2)]) (fun t k => XS.iload X389.here hx rfl (hb hby at_79) rfl k) ?_
    refine GoV.sg (mkF m 86 (Sh19 q1 q2 q3 q4 q5 2 0 b356_e0 b358_e0 b359 b356_e0) []) (fun t k => XS.icmpYes X389.here hx rfl (pc0 := 81) (pc' := 86) rfl (hb hby at_81) rfl (by decide) (by decide) (by decide) k) ?_
    rcases ref_cases hvf with rfl | ⟨af, rfl⟩
    ·show GoV p e below s (ValQ (.int (1 : Int32)) n0) room_1.cells room_1.slots (T389.setTop (mkF m 86 (Sh19 q1 q2 q3 q4 q5 2 0 b356_e0 b358_e0 b359 b356_e0) []))
     refine GoV.sg (mkF m 88 (Sh19 q1 q2 q3 q4 q5 2 0 b356_e0 b358_e0 b359 b356_e0) [(.ref b356_e0)]) (fun t k => XS.aload X389.here hx rfl (hb hby at_86) rfl rfl k) ?_
     refine GoV.sg (mkF m 89 (Sh19 q1 q2 q3 q4 q5 2 0 b356_e0 b358_e0 b359 b356_e0) [(.int 0), (.ref b356_e0)]) (fun t k => XS.iconst X389.here hx rfl (hb hby at_88) k) ?_
     obtain ⟨cq410, kq410, q410a, q410b, q410c⟩ := isOf hZ358 e389 f363_157
     obtain ⟨_, _, ⟨T410, L410, k410, n410⟩, -, X410, ⟨Lc410, hQ410, l410, y410, z410⟩, st410⟩ := X389.virtualBack hx (y := Y14) (z := Y14) hown358 (mvT hZ358 (ww hw 71 rfl)) (mvT hZ358 (ww hw 72 rfl)) (notFace_of_selects (args := #[]) (mvT hZ358 (ww hw 74 rfl))) (mvT hZ358 (ww hw 74 rfl)) (mvT hZ358 (ww hw 73 rfl)) (by decide) (backOf (W := 0) (rm14_41 l Z a0 hw [] b356_e0 b356_e1 k356_ke1 (lat8 (chA q1)) (lat8 (chB q1)) cs T363.heap n0  f363_157 f363_158 f363_159 f363_160 f363_155 f363_156   ncs ) hZ358 (ww hw 75 rfl) (ww hw 7 rfl) (by decide) (by decide)) q410a q410c (g := (mkF m 89 (Sh19 q1 q2 q3 q4 q5 2 0 b356_e0 b358_e0 b359 b356_e0) [(.int 0), (.ref b356_e0)])) rfl (by rw [hml]; rfl) (Steps.refl _) (argsL := [(.int (0 : Int32))]) (rest := []) (lenOf pd_28I29C rfl) rfl (by show 2 * 0 + _ ≤ _; exact Nat.le_of_eq rfl) (hb hby at_89) (fun _ _ => ⟨rfl, e389, (by decide : 8 + 0 ≤ _), (by decide : 18 + 0 ≤ _)⟩)
     dsimp only [Pt.U, Pt.locs, Pt.cells, Pt.slots] at X410 l410 y410 z410 st410 hQ410
     subst l410 y410 z410
     obtain ⟨rfl, N410q, e410⟩ := hQ410
     have N410 := Fr.app N389 N410q
     refine GoV.sg (mkF m 92 (Sh19 q1 q2 q3 q4 q5 2 0 b356_e0 b358_e0 b359 b356_e0) [(.int (nar .char (nar .char ((lat8 (chA q1)) &&& (255 : Int32)).toUInt32.toUInt16.toUInt32.toInt32)))]) (fun t k => st410.trans k) ?_
     rw [show (nar .char (nar .char ((lat8 (chA q1)) &&& (255 : Int32)).toUInt32.toUInt16.toUInt32.toInt32)) = (chA q1) from (own_back _ (own_rA q1))]
     refine GoV.sg (mkF m 93 (Sh19 q1 q2 q3 q4 q5 2 0 b356_e0 b358_e0 b359 b356_e0) [(.int q1), (.int (chA q1))]) (fun t k => XS.iloadN X410.here hx rfl (hb hby at_92) rfl k) ?_
     refine GoV.sg (mkF m 96 (Sh19 q1 q2 q3 q4 q5 2 0 b356_e0 b358_e0 b359 b356_e0) [(.int 255), (.int q1), (.int (chA q1))]) (fun t k => XS.sipush X410.here hx rfl (hb hby at_93) k) ?_
     refine GoV.sg (mkF m 97 (Sh19 q1 q2 q3 q4 q5 2 0 b356_e0 b358_e0 b359 b356_e0) [(.int (q1 &&& (255 : Int32))), (.int (chA q1))]) (fun t k => XS.iand X410.here hx rfl (hb hby at_96) rfl k) ?_
     refine GoV.sg (mkF m 98 (Sh19 q1 q2 q3 q4 q5 2 0 b356_e0 b358_e0 b359 b356_e0) [(.int (q1 &&& (255 : Int32)).toUInt32.toUInt16.toUInt32.toInt32), (.int (chA q1))]) (fun t k => XS.i2c X410.here hx rfl (hb hby at_97) rfl k) ?_
     rw [own_cA q1]
     show GoV p e below s (ValQ (.int (1 : Int32)) n0) room_1.cells room_1.slots (T410.setTop (mkF m 98 (Sh19 q1 q2 q3 q4 q5 2 0 b356_e0 b358_e0 b359 b356_e0) [(.int (chA q1)), (.int (chA q1))]))
     refine GoV.sg (mkF m 103 (Sh19 q1 q2 q3 q4 q5 2 0 b356_e0 b358_e0 b359 b356_e0) []) (fun t k => XS.icmpYes X410.here hx rfl (pc0 := 98) (pc' := 103) rfl (hb hby at_98) rfl (teq rfl).1 (by decide) (by decide) k) ?_
     refine GoV.sg (mkF m 105 (Sh19 q1 q2 q3 q4 q5 2 0 b356_e0 b358_e0 b359 b356_e0) [(.int 2)]) (fun t k => XS.iload X410.here hx rfl (hb hby at_103) rfl k) ?_
     refine GoV.sg (mkF m 106 (Sh19 q1 q2 q3 q4 q5 2 0 b356_e0 b358_e0 b359 b356_e0) [(.int 2), (.int 2)]) (fun t k => XS.iconst X410.here hx rfl (hb hby at_105) k) ?_
     refine GoV.sg (mkF m 109 (Sh19 q1 q2 q3 q4 q5 2 0 b356_e0 b358_e0 b359 b356_e0) []) (fun t k => XS.icmpNo X410.here hx rfl (hb hby at_106) rfl (by decide) k) ?_
     refine GoV.sg (mkF m 111 (Sh19 q1 q2 q3 q4 q5 2 0 b356_e0 b358_e0 b359 b356_e0) [(.ref b356_e0)]) (fun t k => XS.aload X410.here hx rfl (hb hby at_109) rfl rfl k) ?_
     refine GoV.sg (mkF m 112 (Sh19 q1 q2 q3 q4 q5 2 0 b356_e0 b358_e0 b359 b356_e0) [(.int 1), (.ref b356_e0)]) (fun t k => XS.iconst X410.here hx rfl (hb hby at_111) k) ?_
     obtain ⟨cq429, kq429, q429a, q429b, q429c⟩ := isOf hZ358 e410 f363_157
     obtain ⟨_, _, ⟨T429, L429, k429, n429⟩, -, X429, ⟨Lc429, hQ429, l429, y429, z429⟩, st429⟩ := X410.virtualBack hx (y := Y14) (z := Y14) hown358 (mvT hZ358 (ww hw 71 rfl)) (mvT hZ358 (ww hw 72 rfl)) (notFace_of_selects (args := #[]) (mvT hZ358 (ww hw 74 rfl))) (mvT hZ358 (ww hw 74 rfl)) (mvT hZ358 (ww hw 73 rfl)) (by decide) (backOf (W := 0) (rm14_45 l Z a0 hw [] b356_e0 b356_e1 k356_ke1 (lat8 (chA q1)) (lat8 (chB q1)) cs T363.heap n0  f363_157 f363_158 f363_159 f363_160 f363_155 f363_156   ncs ) hZ358 (ww hw 75 rfl) (ww hw 7 rfl) (by decide) (by decide)) q429a q429c (g := (mkF m 112 (Sh19 q1 q2 q3 q4 q5 2 0 b356_e0 b358_e0 b359 b356_e0) [(.int 1), (.ref b356_e0)])) rfl (by rw [hml]; rfl) (Steps.refl _) (argsL := [(.int (1 : Int32))]) (rest := []) (lenOf pd_28I29C rfl) rfl (by show 2 * 0 + _ ≤ _; exact Nat.le_of_eq rfl) (hb hby at_112) (fun _ _ => ⟨rfl, e410, (by decide : 8 + 0 ≤ _), (by decide : 18 + 0 ≤ _)⟩)
     dsimp only [Pt.U, Pt.locs, Pt.cells, Pt.slots] at X429 l429 y429 z429 st429 hQ429
     subst l429 y429 z429
     obtain ⟨rfl, N429q, e429⟩ := hQ429
     have N429 := Fr.app N410 N429q
     refine GoV.sg (mkF m 115 (Sh19 q1 q2 q3 q4 q5 2 0 b356_e0 b358_e0 b359 b356_e0) [(.int (nar .char (nar .char ((lat8 (chB q1)) &&& (255 : Int32)).toUInt32.toUInt16.toUInt32.toInt32)))]) (fun t k => st429.trans k) ?_
     rw [show (nar .char (nar .char ((lat8 (chB q1)) &&& (255 : Int32)).toUInt32.toUInt16.toUInt32.toInt32)) = (chB q1) from (own_back _ (own_rB q1))]
     refine GoV.sg (mkF m 116 (Sh19 q1 q2 q3 q4 q5 2 0 b356_e0 b358_e0 b359 b356_e0) [(.int q1), (.int (chB q1))]) (fun t k => XS.iloadN X429.here hx rfl (hb hby at_115) rfl k) ?_
     refine GoV.sg (mkF m 118 (Sh19 q1 q2 q3 q4 q5 2 0 b356_e0 b358_e0 b359 b356_e0) [(.int 8), (.int q1), (.int (chB q1))]) (fun t k => XS.bipush X429.here hx rfl (hb hby at_116) k) ?_
     refine GoV.sg (mkF m 119 (Sh19 q1 q2 q3 q4 q5 2 0 b356_e0 b358_e0 b359 b356_e0) [(.int (q1.toUInt32 >>> ((8 : Int32) &&& 31).toUInt32).toInt32), (.int (chB q1))]) (fun t k => XS.iushr X429.here hx rfl (hb hby at_118) rfl k) ?_
     refine GoV.sg (mkF m 122 (Sh19 q1 q2 q3 q4 q5 2 0 b356_e0 b358_e0 b359 b356_e0) [(.int 255), (.int (q1.toUInt32 >>> ((8 : Int32) &&& 31).toUInt32).toInt32), (.int (chB q1))]) (fun t k => XS.sipush X429.here hx rfl (hb hby at_119) k) ?_
     refine GoV.sg (mkF m 123 (Sh19 q1 q2 q3 q4 q5 2 0 b356_e0 b358_e0 b359 b356_e0) [(.int ((q1.toUInt32 >>> ((8 : Int32) &&& 31).toUInt32).toInt32 &&& (255 : Int32))), (.int (chB q1))]) (fun t k => XS.iand X429.here hx rfl (hb hby at_122) rfl k) ?_
     refine GoV.sg (mkF m 124 (Sh19 q1 q2 q3 q4 q5 2 0 b356_e0 b358_e0 b359 b356_e0) [(.int ((q1.toUInt32 >>> ((8 : Int32) &&& 31).toUInt32).toInt32 &&& (255 : Int32)).toUInt32.toUInt16.toUInt32.toInt32), (.int (chB q1))]) (fun t k => XS.i2c X429.here hx rfl (hb hby at_123) rfl k) ?_
     rw [own_cB q1]
     show GoV p e below s (ValQ (.int (1 : Int32)) n0) room_1.cells room_1.slots (T429.setTop (mkF m 124 (Sh19 q1 q2 q3 q4 q5 2 0 b356_e0 b358_e0 b359 b356_e0) [(.int (chB q1)), (.int (chB q1))]))
     refine GoV.sg (mkF m 129 (Sh19 q1 q2 q3 q4 q5 2 0 b356_e0 b358_e0 b359 b356_e0) []) (fun t k => XS.icmpYes X429.here hx rfl (pc0 := 124) (pc' := 129) rfl (hb hby at_124) rfl (teq rfl).1 (by decide) (by decide) k) ?_
     refine GoV.sg (mkF m 131 (Sh19 q1 q2 q3 q4 q5 2 0 b356_e0 b358_e0 b359 b356_e0) [(.int 2)]) (fun t k => XS.iload X429.here hx rfl (hb hby at_129) rfl k) ?_
     refine GoV.sg (mkF m 132 (Sh19 q1 q2 q3 q4 q5 2 0 b356_e0 b358_e0 b359 b356_e0) [(.int 3), (.int 2)]) (fun t k => XS.iconst X429.here hx rfl (hb hby at_131) k) ?_
     refine GoV.sg (mkF m 155 (Sh19 q1 q2 q3 q4 q5 2 0 b356_e0 b358_e0 b359 b356_e0) []) (fun t k => XS.icmpYes X429.here hx rfl (pc0 := 132) (pc' := 155) rfl (hb hby at_132) rfl (by decide) (by decide) (by decide) k) ?_
     refine GoV.sg (mkF m 156 (Sh19 q1 q2 q3 q4 q5 2 0 b356_e0 b358_e0 b359 b356_e0) [(.int 1)]) (fun t k => XS.iconst X429.here hx rfl (hb hby at_155) k) ?_
     refine GoV.retN X429 hS358 (by rw [e429]; exact f363_161) hx (t := .boolean) Bd.returns (by simp) (hb hby at_156) Bd.notSynchronized ?_ (by decide) (by decide)
     exact ⟨rfl, N429⟩
    ·show GoV p e below s (ValQ (.int (1 : Int32)) n0) room_1.cells room_1.slots (T389.setTop (mkF m 86 (Sh19 q1 q2 q3 q4 q5 2 0 b356_e0 b358_e0 b359 b356_e0) []))
     refine GoV.sg (mkF m 88 (Sh19 q1 q2 q3 q4 q5 2 0 b356_e0 b358_e0 b359 b356_e0) [(.ref b356_e0)]) (fun t k => XS.aload X389.here hx rfl (hb hby at_86) rfl rfl k) ?_
     refine GoV.sg (mkF m 89 (Sh19 q1 q2 q3 q4 q5 2 0 b356_e0 b358_e0 b359 b356_e0) [(.int 0), (.ref b356_e0)]) (fun t k => XS.iconst X389.here hx rfl (hb hby at_88) k) ?_
     obtain ⟨cq450, kq450, q450a, q450b, q450c⟩ := isOf hZ358 e389 f363_157
     obtain ⟨_, _, ⟨T450, L450, k450, n450⟩, -, X450, ⟨Lc450, hQ450, l450, y450, z450⟩, st450⟩ := X389.virtualBack hx (y := Y14) (z := Y14) hown358 (mvT hZ358 (ww hw 71 rfl)) (mvT hZ358 (ww hw 72 rfl)) (notFace_of_selects (args := #[]) (mvT hZ358 (ww hw 74 rfl))) (mvT hZ358 (ww hw 74 rfl)) (mvT hZ358 (ww hw 73 rfl)) (by decide) (backOf (W := 0) (rm14_49 l Z a0 hw [] b356_e0 b356_e1 k356_ke1 (lat8 (chA q1)) (lat8 (chB q1)) cs af T363.heap n0  f363_157 f363_158 f363_159 f363_160 f363_155 f363_156   ncs ) hZ358 (ww hw 75 rfl) (ww hw 7 rfl) (by decide) (by decide)) q450a q450c (g := (mkF m 89 (Sh19 q1 q2 q3 q4 q5 2 0 b356_e0 b358_e0 b359 b356_e0) [(.int 0), (.ref b356_e0)])) rfl (by rw [hml]; rfl) (Steps.refl _) (argsL := [(.int (0 : Int32))]) (rest := []) (lenOf pd_28I29C rfl) rfl (by show 2 * 0 + _ ≤ _; exact Nat.le_of_eq rfl) (hb hby at_89) (fun _ _ => ⟨rfl, e389, (by decide : 8 + 0 ≤ _), (by decide : 18 + 0 ≤ _)⟩)
     dsimp only [Pt.U, Pt.locs, Pt.cells, Pt.slots] at X450 l450 y450 z450 st450 hQ450
     subst l450 y450 z450
     obtain ⟨rfl, N450q, e450⟩ := hQ450
     have N450 := Fr.app N389 N450q
     refine GoV.sg (mkF m 92 (Sh19 q1 q2 q3 q4 q5 2 0 b356_e0 b358_e0 b359 b356_e0) [(.int (nar .char (nar .char ((lat8 (chA q1)) &&& (255 : Int32)).toUInt32.toUInt16.toUInt32.toInt32)))]) (fun t k => st450.trans k) ?_
     rw [show (nar .char (nar .char ((lat8 (chA q1)) &&& (255 : Int32)).toUInt32.toUInt16.toUInt32.toInt32)) = (chA q1) from (own_back _ (own_rA q1))]
     refine GoV.sg (mkF m 93 (Sh19 q1 q2 q3 q4 q5 2 0 b356_e0 b358_e0 b359 b356_e0) [(.int q1), (.int (chA q1))]) (fun t k => XS.iloadN X450.here hx rfl (hb hby at_92) rfl k) ?_
     refine GoV.sg (mkF m 96 (Sh19 q1 q2 q3 q4 q5 2 0 b356_e0 b358_e0 b359 b356_e0) [(.int 255), (.int q1), (.int (chA q1))]) (fun t k => XS.sipush X450.here hx rfl (hb hby at_93) k) ?_
     refine GoV.sg (mkF m 97 (Sh19 q1 q2 q3 q4 q5 2 0 b356_e0 b358_e0 b359 b356_e0) [(.int (q1 &&& (255 : Int32))), (.int (chA q1))]) (fun t k => XS.iand X450.here hx rfl (hb hby at_96) rfl k) ?_
     refine GoV.sg (mkF m 98 (Sh19 q1 q2 q3 q4 q5 2 0 b356_e0 b358_e0 b359 b356_e0) [(.int (q1 &&& (255 : Int32)).toUInt32.toUInt16.toUInt32.toInt32), (.int (chA q1))]) (fun t k => XS.i2c X450.here hx rfl (hb hby at_97) rfl k) ?_
     rw [own_cA q1]
     show GoV p e below s (ValQ (.int (1 : Int32)) n0) room_1.cells room_1.slots (T450.setTop (mkF m 98 (Sh19 q1 q2 q3 q4 q5 2 0 b356_e0 b358_e0 b359 b356_e0) [(.int (chA q1)), (.int (chA q1))]))
     refine GoV.sg (mkF m 103 (Sh19 q1 q2 q3 q4 q5 2 0 b356_e0 b358_e0 b359 b356_e0) []) (fun t k => XS.icmpYes X450.here hx rfl (pc0 := 98) (pc' := 103) rfl (hb hby at_98) rfl (teq rfl).1 (by decide) (by decide) k) ?_
     refine GoV.sg (mkF m 105 (Sh19 q1 q2 q3 q4 q5 2 0 b356_e0 b358_e0 b359 b356_e0) [(.int 2)]) (fun t k => XS.iload X450.here hx rfl (hb hby at_103) rfl k) ?_
     refine GoV.sg (mkF m 106 (Sh19 q1 q2 q3 q4 q5 2 0 b356_e0 b358_e0 b359 b356_e0) [(.int 2), (.int 2)]) (fun t k => XS.iconst X450.here hx rfl (hb hby at_105) k) ?_
     refine GoV.sg (mkF m 109 (Sh19 q1 q2 q3 q4 q5 2 0 b356_e0 b358_e0 b359 b356_e0) []) (fun t k => XS.icmpNo X450.here hx rfl (hb hby at_106) rfl (by decide) k) ?_
     refine GoV.sg (mkF m 111 (Sh19 q1 q2 q3 q4 q5 2 0 b356_e0 b358_e0 b359 b356_e0) [(.ref b356_e0)]) (fun t k => XS.aload X450.here hx rfl (hb hby at_109) rfl rfl k) ?_
     refine GoV.sg (mkF m 112 (Sh19 q1 q2 q3 q4 q5 2 0 b356_e0 b358_e0 b359 b356_e0) [(.int 1), (.ref b356_e0)]) (fun t k => XS.iconst X450.here hx rfl (hb hby at_111) k) ?_
     obtain ⟨cq469, kq469, q469a, q469b, q469c⟩ := isOf hZ358 e450 f363_157
     obtain ⟨_, _, ⟨T469, L469, k469, n469⟩, -, X469, ⟨Lc469, hQ469, l469, y469, z469⟩, st469⟩ := X450.virtualBack hx (y := Y14) (z := Y14) hown358 (mvT hZ358 (ww hw 71 rfl)) (mvT hZ358 (ww hw 72 rfl)) (notFace_of_selects (args := #[]) (mvT hZ358 (ww hw 74 rfl))) (mvT hZ358 (ww hw 74 rfl)) (mvT hZ358 (ww hw 73 rfl)) (by decide) (backOf (W := 0) (rm14_53 l Z a0 hw [] b356_e0 b356_e1 k356_ke1 (lat8 (chA q1)) (lat8 (chB q1)) cs af T363.heap n0  f363_157 f363_158 f363_159 f363_160 f363_155 f363_156   ncs ) hZ358 (ww hw 75 rfl) (ww hw 7 rfl) (by decide) (by decide)) q469a q469c (g := (mkF m 112 (Sh19 q1 q2 q3 q4 q5 2 0 b356_e0 b358_e0 b359 b356_e0) [(.int 1), (.ref b356_e0)])) rfl (by rw [hml]; rfl) (Steps.refl _) (argsL := [(.int (1 : Int32))]) (rest := []) (lenOf pd_28I29C rfl) rfl (by show 2 * 0 + _ ≤ _; exact Nat.le_of_eq rfl) (hb hby at_112) (fun _ _ => ⟨rfl, e450, (by decide : 8 + 0 ≤ _), (by decide : 18 + 0 ≤ _)⟩)
     dsimp only [Pt.U, Pt.locs, Pt.cells, Pt.slots] at X469 l469 y469 z469 st469 hQ469
     subst l469 y469 z469
     obtain ⟨rfl, N469q, e469⟩ := hQ469
     have N469 := Fr.app N450 N469q
     refine GoV.sg (mkF m 115 (Sh19 q1 q2 q3 q4 q5 2 0 b356_e0 b358_e0 b359 b356_e0) [(.int (nar .char (nar .char ((lat8 (chB q1)) &&& (255 : Int32)).toUInt32.toUInt16.toUInt32.toInt32)))]) (fun t k => st469.trans k) ?_
     rw [show (nar .char (nar .char ((lat8 (chB q1)) &&& (255 : Int32)).toUInt32.toUInt16.toUInt32.toInt32)) = (chB q1) from (own_back _ (own_rB q1))]
     refine GoV.sg (mkF m 116 (Sh19 q1 q2 q3 q4 q5 2 0 b356_e0 b358_e0 b359 b356_e0) [(.int q1), (.int (chB q1))]) (fun t k => XS.iloadN X469.here hx rfl (hb hby at_115) rfl k) ?_
     refine GoV.sg (mkF m 118 (Sh19 q1 q2 q3 q4 q5 2 0 b356_e0 b358_e0 b359 b356_e0) [(.int 8), (.int q1), (.int (chB q1))]) (fun t k => XS.bipush X469.here hx rfl (hb hby at_116) k) ?_
     refine GoV.sg (mkF m 119 (Sh19 q1 q2 q3 q4 q5 2 0 b356_e0 b358_e0 b359 b356_e0) [(.int (q1.toUInt32 >>> ((8 : Int32) &&& 31).toUInt32).toInt32), (.int (chB q1))]) (fun t k => XS.iushr X469.here hx rfl (hb hby at_118) rfl k) ?_
     refine GoV.sg (mkF m 122 (Sh19 q1 q2 q3 q4 q5 2 0 b356_e0 b358_e0 b359 b356_e0) [(.int 255), (.int (q1.toUInt32 >>> ((8 : Int32) &&& 31).toUInt32).toInt32), (.int (chB q1))]) (fun t k => XS.sipush X469.here hx rfl (hb hby at_119) k) ?_
     refine GoV.sg (mkF m 123 (Sh19 q1 q2 q3 q4 q5 2 0 b356_e0 b358_e0 b359 b356_e0) [(.int ((q1.toUInt32 >>> ((8 : Int32) &&& 31).toUInt32).toInt32 &&& (255 : Int32))), (.int (chB q1))]) (fun t k => XS.iand X469.here hx rfl (hb hby at_122) rfl k) ?_
     refine GoV.sg (mkF m 124 (Sh19 q1 q2 q3 q4 q5 2 0 b356_e0 b358_e0 b359 b356_e0) [(.int ((q1.toUInt32 >>> ((8 : Int32) &&& 31).toUInt32).toInt32 &&& (255 : Int32)).toUInt32.toUInt16.toUInt32.toInt32), (.int (chB q1))]) (fun t k => XS.i2c X469.here hx rfl (hb hby at_123) rfl k) ?_
     rw [own_cB q1]
     show GoV p e below s (ValQ (.int (1 : Int32)) n0) room_1.cells room_1.slots (T469.setTop (mkF m 124 (Sh19 q1 q2 q3 q4 q5 2 0 b356_e0 b358_e0 b359 b356_e0) [(.int (chB q1)), (.int (chB q1))]))
     refine GoV.sg (mkF m 129 (Sh19 q1 q2 q3 q4 q5 2 0 b356_e0 b358_e0 b359 b356_e0) []) (fun t k => XS.icmpYes X469.here hx rfl (pc0 := 124) (pc' := 129) rfl (hb hby at_124) rfl (teq rfl).1 (by decide) (by decide) k) ?_
     refine GoV.sg (mkF m 131 (Sh19 q1 q2 q3 q4 q5 2 0 b356_e0 b358_e0 b359 b356_e0) [(.int 2)]) (fun t k => XS.iload X469.here hx rfl (hb hby at_129) rfl k) ?_
     refine GoV.sg (mkF m 132 (Sh19 q1 q2 q3 q4 q5 2 0 b356_e0 b358_e0 b359 b356_e0) [(.int 3), (.int 2)]) (fun t k => XS.iconst X469.here hx rfl (hb hby at_131) k) ?_
     refine GoV.sg (mkF m 155 (Sh19 q1 q2 q3 q4 q5 2 0 b356_e0 b358_e0 b359 b356_e0) []) (fun t k => XS.icmpYes X469.here hx rfl (pc0 := 132) (pc' := 155) rfl (hb hby at_132) rfl (by decide) (by decide) (by decide) k) ?_
     refine GoV.sg (mkF m 156 (Sh19 q1 q2 q3 q4 q5 2 0 b356_e0 b358_e0 b359 b356_e0) [(.int 1)]) (fun t k => XS.iconst X469.here hx rfl (hb hby at_155) k) ?_
     refine GoV.retN X469 hS358 (by rw [e469]; exact f363_161) hx (t := .boolean) Bd.returns (by simp) (hb hby at_156) Bd.notSynchronized ?_ (by decide) (by decide)
     exact ⟨rfl, N469⟩
   ·rw [vv]
    show GoV p e below s (ValQ (.int (1 : Int32)) n0) room_1.cells room_1.slots (T356.setTop (mkF m 37 (Sh15 q1 q2 q3 q4 q5 2 1 b356_e0) []))
    refine GoV.sg (mkF m 39 (Sh15 q1 q2 q3 q4 q5 2 1 b356_e0) [(.int 1)]) (fun t k => XS.iload X356.here hx rfl (hb hby at_37) rfl k) ?_
    refine GoV.sg (mkF m 40 (Sh15 q1 q2 q3 q4 q5 2 1 b356_e0) [(.int q2), (.int 1)]) (fun t k => XS.iloadN X356.here hx rfl (hb hby at_39) rfl k) ?_
    obtain ⟨_, T470, L470, X470, hQ470, st470⟩ := own_callS X356 hx hZ hown (y := Y1) (ww hw 1 rfl) (ww hw 2 rfl) (ww hw 3 rfl) (ww hw 4 rfl) (by decide) 0 (rm1_6 l Z a0 hw [] q2 cs T356.heap n0 f356_131 f356_133   ncs ) (by decide) (by decide) rfl (by decide) (by decide) (g := (mkF m 40 (Sh15 q1 q2 q3 q4 q5 2 1 b356_e0) [(.int q2), (.int 1)])) rfl (by rw [hml]; rfl) (argsL := [(.int (1 : Int32)), (.int q2)]) (rest := []) (lenOf pd_28II29Ljava2flang2fString3b rfl) rfl (by show 2 * 0 + _ ≤ _; exact Nat.le_of_eq rfl) (hb hby at_40)
    obtain ⟨b470_e0, b470_e1, k470_ke1, rfl, N470q, K470, p470_0, p470_1, p470_2, p470_3, hz_b470_e0, hz_b470_e1⟩ := hQ470
    have N470 := Fr.app N356 N470q
    have f470_162 := Nat.le_trans f356_131 K470.1
    have f470_164 := own_staK0 f356_133 K470
    have f470_165 := own_staK0 f356_134 K470
    have f470_166 := Nat.le_trans f356_135 K470.1
    have f470_167 := p356_0.keep K470
    have f470_168 := p356_1.keep K470 nin0
    have f470_169 := p356_2.keep K470 nin0
    have f470_170 := p356_3.keep K470 nin0
    refine GoV.sg (mkF m 43 (Sh15 q1 q2 q3 q4 q5 2 1 b356_e0) [(.ref b470_e0)]) (fun t k => st470 t k) ?_
    refine GoV.sg (mkF m 45 (Sh16 q1 q2 q3 q4 q5 2 1 b356_e0 b470_e0) []) (fun t k => XS.astore X470.here hx rfl (hb hby at_43) rfl rfl (l' := (Sh16 q1 q2 q3 q4 q5 2 1 b356_e0 b470_e0)) rfl k) ?_
    obtain ⟨T471, h471, X471, e471, E471, A471, D471, -, st471⟩ := newO X470 hx hZ hown (ww hw 35 rfl) (ww hw 36 rfl) (ww hw 37 rfl) rfl (g := (mkF m 45 (Sh16 q1 q2 q3 q4 q5 2 1 b356_e0 b470_e0) [])) rfl (hb hby at_45) (by decide) (by decide)
    obtain ⟨b471, g471⟩ : ∃ z, z = T470.heap.size := ⟨_, rfl⟩
    rw [← g471] at A471 D471 st471
    have g_b471 : n0 ≤ b471 := Nat.le_trans f470_162 (Nat.le_of_eq g471.symm)
    have ne_b356_e0_b471 : b356_e0 ≠ b471 := Nat.ne_of_lt (Nat.lt_of_lt_of_eq f470_167.lt g471.symm)
    have ne_b356_e1_b471 : b356_e1 ≠ b471 := Nat.ne_of_lt (Nat.lt_of_lt_of_eq f470_170.lt g471.symm)
    have f471_173 := f470_164.ext E471
    have f471_174 := f470_165.ext E471
    have f471_175 := Nat.le_trans f470_166 E471.1
    have f471_176 := f470_167.ext E471
    have f471_177 := f470_168.ext E471
    have f471_178 := f470_169.ext E471
    have f471_179 := f470_170.ext E471
    have F471name : Fld Z h471 b471 "com/example/relaystack/relaystack/CommandLine$Option" "name" "Ljava/lang/String;" .null := D471 (Or.inr (ww hw 48 rfl)) (ty := (.object "java/lang/String")) (by decide)
    have F471given : Fld Z h471 b471 "com/example/relaystack/relaystack/CommandLine$Option" "given" "Ljava/lang/String;" .null := D471 (Or.inr (ww hw 50 rfl)) (ty := (.object "java/lang/String")) (by decide)
    refine GoV.sg (mkF m 48 (Sh16 q1 q2 q3 q4 q5 2 1 b356_e0 b470_e0) [(.ref b471)]) (fun t k => st471 t k) ?_
    refine GoV.sg (mkF m 49 (Sh16 q1 q2 q3 q4 q5 2 1 b356_e0 b470_e0) [(.ref b471), (.ref b471)]) (fun t k => XS.dup X471.here hx rfl (hb hby at_48) rfl rfl k) ?_
    refine GoV.sg (mkF m 51 (Sh16 q1 q2 q3 q4 q5 2 1 b356_e0 b470_e0) [(.ref b470_e0), (.ref b471), (.ref b471)]) (fun t k => XS.aload X471.here hx rfl (hb hby at_49) rfl rfl k) ?_
    refine GoV.sg (mkF m 53 (Sh16 q1 q2 q3 q4 q5 2 1 b356_e0 b470_e0) [(.ref b356_e0), (.ref b470_e0), (.ref b471), (.ref b471)]) (fun t k => XS.aload X471.here hx rfl (hb hby at_51) rfl rfl k) ?_
    obtain ⟨_, _, ⟨T475, L475, k475, n475⟩, -, X475, ⟨Lc475, hQ475, l475, y475, z475⟩, st475⟩ := X471.specialBack hx (y := Y8) rfl hown (mvT hZ (ww hw 38 rfl)) (mvT hZ (ww hw 39 rfl)) (mvT hZ (ww hw 40 rfl)) (by decide) (backOf (W := 1) (rm8_8 l Z a0 hw [] b471 b470_e0 b356_e0  h471 n0  A471 F471given F471name g_b471   ) hZ (ww hw 40 rfl) (ww hw 37 rfl) (by decide) (by decide)) (g := (mkF m 53 (Sh16 q1 q2 q3 q4 q5 2 1 b356_e0 b470_e0) [(.ref b356_e0), (.ref b470_e0), (.ref b471), (.ref b471)])) rfl (by rw [hml]; rfl) (Steps.refl _) (a := b471) (argsL := [(.ref b470_e0), (.ref b356_e0)]) (rest := [(.ref b471)]) (lenOf pd_28Ljava2flang2fString3bLjava2flang2fString3b29V rfl) rfl (by show 2 * 0 + _ ≤ _; exact Nat.le_of_eq rfl) (hb hby at_53) (fun _ _ => ⟨rfl, e471, (by decide : 7 + 0 ≤ _), (by decide : 16 + 0 ≤ _)⟩)
    dsimp only [Pt.U, Pt.locs, Pt.cells, Pt.slots] at X475 l475 y475 z475 st475 hQ475
    subst l475 y475 z475
    obtain ⟨rfl, N475q, K475, p475_0, p475_1, p475_2⟩ := hQ475
    have N475 := Fr.app N470 N475q
    have f475_182 := own_staK f471_173 K475 (allS (own_nsE A471) all0)
    have f475_183 := own_staK f471_174 K475 (allS (own_nsE A471) all0)
    have f475_184 := Nat.le_trans f471_175 K475.1
    have f475_185 := f471_176.keep K475
    have f475_186 := f471_177.keep K475 (ninS ne_b356_e0_b471 nin0)
    have f475_187 := f471_178.keep K475 (ninS ne_b356_e0_b471 nin0)
    have f475_188 := f471_179.keep K475 (ninS ne_b356_e1_b471 nin0)
    refine GoV.sg (mkF m 56 (Sh16 q1 q2 q3 q4 q5 2 1 b356_e0 b470_e0) [(.ref b471)]) (fun t k => st475.trans k) ?_
    refine GoV.sg (mkF m 58 (Sh18 q1 q2 q3 q4 q5 2 1 b356_e0 b470_e0 b471) []) (fun t k => XS.astore X475.here hx rfl (hb hby at_56) rfl rfl (l' := (Sh18 q1 q2 q3 q4 q5 2 1 b356_e0 b470_e0 b471)) rfl k) ?_
    refine GoV.sg (mkF m 60 (Sh18 q1 q2 q3 q4 q5 2 1 b356_e0 b470_e0 b471) [(.ref b471)]) (fun t k => XS.aload X475.here hx rfl (hb hby at_58) rfl rfl k) ?_
    obtain ⟨cq480, kq480, q480a, q480b, q480c⟩ := isOf hZ rfl p475_0
    obtain ⟨_, _, ⟨T480, L480, k480, n480⟩, -, X480, ⟨Lc480, hQ480, l480, y480, z480⟩, st480⟩ := X475.virtualBack hx (y := Y10) (z := Y10) hown (mvT hZ (ww hw 51 rfl)) (mvT hZ (ww hw 52 rfl)) (notFace_of_selects (args := #[]) (mvT hZ (ww hw 54 rfl))) (mvT hZ (ww hw 54 rfl)) (mvT hZ (ww hw 53 rfl)) (by decide) (backOf (W := 0) (rm10_36 l Z a0 hw [] b471 b356_e0 b356_e1 k356_ke1 (lat8 (chA q1)) (lat8 (chB q1)) T475.heap n0  f475_185 p475_1 f475_187 f475_188    ) hZ (ww hw 55 rfl) (ww hw 37 rfl) (by decide) (by decide)) q480a q480c (g := (mkF m 60 (Sh18 q1 q2 q3 q4 q5 2 1 b356_e0 b470_e0 b471) [(.ref b471)])) rfl (by rw [hml]; rfl) (Steps.refl _) (argsL := []) (rest := []) (lenOf pd_2829Ljava2flang2fString3b rfl) rfl (by show 2 * 0 + _ ≤ _; exact Nat.le_of_eq rfl) (hb hby at_60) (fun _ _ => ⟨rfl, rfl, (by decide : 7 + 0 ≤ _), (by decide : 16 + 0 ≤ _)⟩)
    dsimp only [Pt.U, Pt.locs, Pt.cells, Pt.slots] at X480 l480 y480 z480 st480 hQ480
    subst l480 y480 z480
    obtain ⟨rfl, N480q, e480⟩ := hQ480
    have N480 := Fr.app N475 N480q
    refine GoV.sg (mkF m 63 (Sh18 q1 q2 q3 q4 q5 2 1 b356_e0 b470_e0 b471) [(.ref b356_e0)]) (fun t k => st480.trans k) ?_
    refine GoV.sg (mkF m 65 (Sh19 q1 q2 q3 q4 q5 2 1 b356_e0 b470_e0 b471 b356_e0) []) (fun t k => XS.astore X480.here hx rfl (hb hby at_63) rfl rfl (l' := (Sh19 q1 q2 q3 q4 q5 2 1 b356_e0 b470_e0 b471 b356_e0)) rfl k) ?_
    refine GoV.sg (mkF m 67 (Sh19 q1 q2 q3 q4 q5 2 1 b356_e0 b470_e0 b471 b356_e0) [(.ref b356_e0)]) (fun t k => XS.aload X480.here hx rfl (hb hby at_65) rfl rfl k) ?_
    refine GoV.sg (mkF m 69 (Sh19 q1 q2 q3 q4 q5 2 1 b356_e0 b470_e0 b471 b356_e0) [(.ref b356_e0), (.ref b356_e0)]) (fun t k => XS.aload X480.here hx rfl (hb hby at_67) rfl rfl k) ?_
    refine GoV.sg (mkF m 74 (Sh19 q1 q2 q3 q4 q5 2 1 b356_e0 b470_e0 b471 b356_e0) []) (fun t k => Jvm.RoadKit.acmp X480 hx rfl (cd := .eq) (x := (.ref b356_e0)) (y := (.ref b356_e0)) rfl rfl (pc0 := 69) (pc' := 74) (same := true) rfl (hb hby at_69) rfl (decide_eq_true rfl) (by decide) (by decide) k) ?_
    refine GoV.sg (mkF m 76 (Sh19 q1 q2 q3 q4 q5 2 1 b356_e0 b470_e0 b471 b356_e0) [(.ref b356_e0)]) (fun t k => XS.aload X480.here hx rfl (hb hby at_74) rfl rfl k) ?_
    obtain ⟨cq481, kq481, q481a, q481b, q481c⟩ := isOf hZ e480 f475_185
    obtain ⟨_, _, ⟨T481, L481, k481, n481⟩, -, X481, ⟨Lc481, hQ481, l481, y481, z481⟩, st481⟩ := X480.virtualBack hx (y := Y12) (z := Y12) hown (mvT hZ (ww hw 61 rfl)) (mvT hZ (ww hw 62 rfl)) (notFace_of_selects (args := #[]) (mvT hZ (ww hw 64 rfl))) (mvT hZ (ww hw 64 rfl)) (mvT hZ (ww hw 63 rfl)) (by decide) (backOf (W := 0) (rm12_37 l Z a0 hw [] b356_e0 b356_e1 k356_ke1 (lat8 (chA q1)) (lat8 (chB q1)) cs T475.heap n0  f475_185 f475_186 f475_187 f475_188 f475_182   ncs ) hZ (ww hw 65 rfl) (ww hw 7 rfl) (by decide) (by decide)) q481a q481c (g := (mkF m 76 (Sh19 q1 q2 q3 q4 q5 2 1 b356_e0 b470_e0 b471 b356_e0) [(.ref b356_e0)])) rfl (by rw [hml]; rfl) (Steps.refl _) (argsL := []) (rest := []) (lenOf pd_2829I rfl) rfl (by show 2 * 0 + _ ≤ _; exact Nat.le_of_eq rfl) (hb hby at_76) (fun _ _ => ⟨rfl, e480, (by decide : 7 + 0 ≤ _), (by decide : 16 + 0 ≤ _)⟩)
    dsimp only [Pt.U, Pt.locs, Pt.cells, Pt.slots] at X481 l481 y481 z481 st481 hQ481
    subst l481 y481 z481
    obtain ⟨rfl, N481q, e481⟩ := hQ481
    have N481 := Fr.app N480 N481q
    refine GoV.sg (mkF m 79 (Sh19 q1 q2 q3 q4 q5 2 1 b356_e0 b470_e0 b471 b356_e0) [(.int 2)]) (fun t k => st481.trans k) ?_
    refine GoV.sg (mkF m 81 (Sh19 q1 q2 q3 q4 q5 2 1 b356_e0 b470_e0 b471 b356_e0) [(.int 2), (.int 2)]) (fun t k => XS.iload X481.here hx rfl (hb hby at_79) rfl k) ?_
    refine GoV.sg (mkF m 86 (Sh19 q1 q2 q3 q4 q5 2 1 b356_e0 b470_e0 b471 b356_e0) []) (fun t k => XS.icmpYes X481.here hx rfl (pc0 := 81) (pc' := 86) rfl (hb hby at_81) rfl (by decide) (by decide) (by decide) k) ?_
    rcases ref_cases hvf with rfl | ⟨af, rfl⟩
    ·show GoV p e below s (ValQ (.int (1 : Int32)) n0) room_1.cells room_1.slots (T481.setTop (mkF m 86 (Sh19 q1 q2 q3 q4 q5 2 1 b356_e0 b470_e0 b471 b356_e0) []))
     refine GoV.sg (mkF m 88 (Sh19 q1 q2 q3 q4 q5 2 1 b356_e0 b470_e0 b471 b356_e0) [(.ref b356_e0)]) (fun t k => XS.aload X481.here hx rfl (hb hby at_86) rfl rfl k) ?_
     refine GoV.sg (mkF m 89 (Sh19 q1 q2 q3 q4 q5 2 1 b356_e0 b470_e0 b471 b356_e0) [(.int 0), (.ref b356_e0)]) (fun t k => XS.iconst X481.here hx rfl (hb hby at_88) k) ?_
     obtain ⟨cq482, kq482, q482a, q482b, q482c⟩ := isOf hZ e481 f475_185
     obtain ⟨_, _, ⟨T482, L482, k482, n482⟩, -, X482, ⟨Lc482, hQ482, l482, y482, z482⟩, st482⟩ := X481.virtualBack hx (y := Y14) (z := Y14) hown (mvT hZ (ww hw 71 rfl)) (mvT hZ (ww hw 72 rfl)) (notFace_of_selects (args := #[]) (mvT hZ (ww hw 74 rfl))) (mvT hZ (ww hw 74 rfl)) (mvT hZ (ww hw 73 rfl)) (by decide) (backOf (W := 0) (rm14_41 l Z a0 hw [] b356_e0 b356_e1 k356_ke1 (lat8 (chA q1)) (lat8 (chB q1)) cs T475.heap n0  f475_185 f475_186 f475_187 f475_188 f475_182 f475_183   ncs ) hZ (ww hw 75 rfl) (ww hw 7 rfl) (by decide) (by decide)) q482a q482c (g := (mkF m 89 (Sh19 q1 q2 q3 q4 q5 2 1 b356_e0 b470_e0 b471 b356_e0) [(.int 0), (.ref b356_e0)])) rfl (by rw [hml]; rfl) (Steps.refl _) (argsL := [(.int (0 : Int32))]) (rest := []) (lenOf pd_28I29C rfl) rfl (by show 2 * 0 + _ ≤ _; exact Nat.le_of_eq rfl) (hb hby at_89) (fun _ _ => ⟨rfl, e481, (by decide : 7 + 0 ≤ _), (by decide : 16 + 0 ≤ _)⟩)
     dsimp only [Pt.U, Pt.locs, Pt.cells, Pt.slots] at X482 l482 y482 z482 st482 hQ482
     subst l482 y482 z482
     obtain ⟨rfl, N482q, e482⟩ := hQ482
     have N482 := Fr.app N481 N482q
     refine GoV.sg (mkF m 92 (Sh19 q1 q2 q3 q4 q5 2 1 b356_e0 b470_e0 b471 b356_e0) [(.int (nar .char (nar .char ((lat8 (chA q1)) &&& (255 : Int32)).toUInt32.toUInt16.toUInt32.toInt32)))]) (fun t k => st482.trans k) ?_
     rw [show (nar .char (nar .char ((lat8 (chA q1)) &&& (255 : Int32)).toUInt32.toUInt16.toUInt32.toInt32)) = (chA q1) from (own_back _ (own_rA q1))]
     refine GoV.sg (mkF m 93 (Sh19 q1 q2 q3 q4 q5 2 1 b356_e0 b470_e0 b471 b356_e0) [(.int q1), (.int (chA q1))]) (fun t k => XS.iloadN X482.here hx rfl (hb hby at_92) rfl k) ?_
     refine GoV.sg (mkF m 96 (Sh19 q1 q2 q3 q4 q5 2 1 b356_e0 b470_e0 b471 b356_e0) [(.int 255), (.int q1), (.int (chA q1))]) (fun t k => XS.sipush X482.here hx rfl (hb hby at_93) k) ?_
     refine GoV.sg (mkF m 97 (Sh19 q1 q2 q3 q4 q5 2 1 b356_e0 b470_e0 b471 b356_e0) [(.int (q1 &&& (255 : Int32))), (.int (chA q1))]) (fun t k => XS.iand X482.here hx rfl (hb hby at_96) rfl k) ?_
     refine GoV.sg (mkF m 98 (Sh19 q1 q2 q3 q4 q5 2 1 b356_e0 b470_e0 b471 b356_e0) [(.int (q1 &&& (255 : Int32)).toUInt32.toUInt16.toUInt32.toInt32), (.int (chA q1))]) (fun t k => XS.i2c X482.here hx rfl (hb hby at_97) rfl k) ?_
     rw [own_cA q1]
     show GoV p e below s (ValQ (.int (1 : Int32)) n0) room_1.cells room_1.slots (T482.setTop (mkF m 98 (Sh19 q1 q2 q3 q4 q5 2 1 b356_e0 b470_e0 b471 b356_e0) [(.int (chA q1)), (.int (chA q1))]))
     refine GoV.sg (mkF m 103 (Sh19 q1 q2 q3 q4 q5 2 1 b356_e0 b470_e0 b471 b356_e0) []) (fun t k => XS.icmpYes X482.here hx rfl (pc0 := 98) (pc' := 103) rfl (hb hby at_98) rfl (teq rfl).1 (by decide) (by decide) k) ?_
     refine GoV.sg (mkF m 105 (Sh19 q1 q2 q3 q4 q5 2 1 b356_e0 b470_e0 b471 b356_e0) [(.int 2)]) (fun t k => XS.iload X482.here hx rfl (hb hby at_103) rfl k) ?_
     refine GoV.sg (mkF m 106 (Sh19 q1 q2 q3 q4 q5 2 1 b356_e0 b470_e0 b471 b356_e0) [(.int 2), (.int 2)]) (fun t k => XS.iconst X482.here hx rfl (hb hby at_105) k) ?_
     refine GoV.sg (mkF m 109 (Sh19 q1 q2 q3 q4 q5 2 1 b356_e0 b470_e0 b471 b356_e0) []) (fun t k => XS.icmpNo X482.here hx rfl (hb hby at_106) rfl (by decide) k) ?_
     refine GoV.sg (mkF m 111 (Sh19 q1 q2 q3 q4 q5 2 1 b356_e0 b470_e0 b471 b356_e0) [(.ref b356_e0)]) (fun t k => XS.aload X482.here hx rfl (hb hby at_109) rfl rfl k) ?_
     refine GoV.sg (mkF m 112 (Sh19 q1 q2 q3 q4 q5 2 1 b356_e0 b470_e0 b471 b356_e0) [(.int 1), (.ref b356_e0)]) (fun t k => XS.iconst X482.here hx rfl (hb hby at_111) k) ?_
     obtain ⟨cq483, kq483, q483a, q483b, q483c⟩ := isOf hZ e482 f475_185
     obtain ⟨_, _, ⟨T483, L483, k483, n483⟩, -, X483, ⟨Lc483, hQ483, l483, y483, z483⟩, st483⟩ := X482.virtualBack hx (y := Y14) (z := Y14) hown (mvT hZ (ww hw 71 rfl)) (mvT hZ (ww hw 72 rfl)) (notFace_of_selects (args := #[]) (mvT hZ (ww hw 74 rfl))) (mvT hZ (ww hw 74 rfl)) (mvT hZ (ww hw 73 rfl)) (by decide) (backOf (W := 0) (rm14_45 l Z a0 hw [] b356_e0 b356_e1 k356_ke1 (lat8 (chA q1)) (lat8 (chB q1)) cs T475.heap n0  f475_185 f475_186 f475_187 f475_188 f475_182 f475_183   ncs ) hZ (ww hw 75 rfl) (ww hw 7 rfl) (by decide) (by decide)) q483a q483c (g := (mkF m 112 (Sh19 q1 q2 q3 q4 q5 2 1 b356_e0 b470_e0 b471 b356_e0) [(.int 1), (.ref b356_e0)])) rfl (by rw [hml]; rfl) (Steps.refl _) (argsL := [(.int (1 : Int32))]) (rest := []) (lenOf pd_28I29C rfl) rfl (by show 2 * 0 + _ ≤ _; exact Nat.le_of_eq rfl) (hb hby at_112) (fun _ _ => ⟨rfl, e482, (by decide : 7 + 0 ≤ _), (by decide : 16 + 0 ≤ _)⟩)
     dsimp only [Pt.U, Pt.locs, Pt.cells, Pt.slots] at X483 l483 y483 z483 st483 hQ483
     subst l483 y483 z483
     obtain ⟨rfl, N483q, e483⟩ := hQ483
     have N483 := Fr.app N482 N483q
     refine GoV.sg (mkF m 115 (Sh19 q1 q2 q3 q4 q5 2 1 b356_e0 b470_e0 b471 b356_e0) [(.int (nar .char (nar .char ((lat8 (chB q1)) &&& (255 : Int32)).toUInt32.toUInt16.toUInt32.toInt32)))]) (fun t k => st483.trans k) ?_
     rw [show (nar .char (nar .char ((lat8 (chB q1)) &&& (255 : Int32)).toUInt32.toUInt16.toUInt32.toInt32)) = (chB q1) from (own_back _ (own_rB q1))]
     refine GoV.sg (mkF m 116 (Sh19 q1 q2 q3 q4 q5 2 1 b356_e0 b470_e0 b471 b356_e0) [(.int q1), (.int (chB q1))]) (fun t k => XS.iloadN X483.here hx rfl (hb hby at_115) rfl k) ?_
     refine GoV.sg (mkF m 118 (Sh19 q1 q2 q3 q4 q5 2 1 b356_e0 b470_e0 b471 b356_e0) [(.int 8), (.int q1), (.int (chB q1))]) (fun t k => XS.bipush X483.here hx rfl (hb hby at_116) k) ?_
     refine GoV.sg (mkF m 119 (Sh19 q1 q2 q3 q4 q5 2 1 b356_e0 b470_e0 b471 b356_e0) [(.int (q1.toUInt32 >>> ((8 : Int32) &&& 31).toUInt32).toInt32), (.int (chB q1))]) (fun t k => XS.iushr X483.here hx rfl (hb hby at_118) rfl k) ?_
     refine GoV.sg (mkF m 122 (Sh19 q1 q2 q3 q4 q5 2 1 b356_e0 b470_e0 b471 b356_e0) [(.int 255), (.int (q1.toUInt32 >>> ((8 : Int32) &&& 31).toUInt32).toInt32), (.int (chB q1))]) (fun t k => XS.sipush X483.here hx rfl (hb hby at_119) k) ?_
     refine GoV.sg (mkF m 123 (Sh19 q1 q2 q3 q4 q5 2 1 b356_e0 b470_e0 b471 b356_e0) [(.int ((q1.toUInt32 >>> ((8 : Int32) &&& 31).toUInt32).toInt32 &&& (255 : Int32))), (.int (chB q1))]) (fun t k => XS.iand X483.here hx rfl (hb hby at_122) rfl k) ?_
     refine GoV.sg (mkF m 124 (Sh19 q1 q2 q3 q4 q5 2 1 b356_e0 b470_e0 b471 b356_e0) [(.int ((q1.toUInt32 >>> ((8 : Int32) &&& 31).toUInt32).toInt32 &&& (255 : Int32)).toUInt32.toUInt16.toUInt32.toInt32), (.int (chB q1))]) (fun t k => XS.i2c X483.here hx rfl (hb hby at_123) rfl k) ?_
     rw [own_cB q1]
     show GoV p e below s (ValQ (.int (1 : Int32)) n0) room_1.cells room_1.slots (T483.setTop (mkF m 124 (Sh19 q1 q2 q3 q4 q5 2 1 b356_e0 b470_e0 b471 b356_e0) [(.int (chB q1)), (.int (chB q1))]))
     refine GoV.sg (mkF m 129 (Sh19 q1 q2 q3 q4 q5 2 1 b356_e0 b470_e0 b471 b356_e0) []) (fun t k => XS.icmpYes X483.here hx rfl (pc0 := 124) (pc' := 129) rfl (hb hby at_124) rfl (teq rfl).1 (by decide) (by decide) k) ?_
     refine GoV.sg (mkF m 131 (Sh19 q1 q2 q3 q4 q5 2 1 b356_e0 b470_e0 b471 b356_e0) [(.int 2)]) (fun t k => XS.iload X483.here hx rfl (hb hby at_129) rfl k) ?_
     refine GoV.sg (mkF m 132 (Sh19 q1 q2 q3 q4 q5 2 1 b356_e0 b470_e0 b471 b356_e0) [(.int 3), (.int 2)]) (fun t k => XS.iconst X483.here hx rfl (hb hby at_131) k) ?_
     refine GoV.sg (mkF m 155 (Sh19 q1 q2 q3 q4 q5 2 1 b356_e0 b470_e0 b471 b356_e0) []) (fun t k => XS.icmpYes X483.here hx rfl (pc0 := 132) (pc' := 155) rfl (hb hby at_132) rfl (by decide) (by decide) (by decide) k) ?_
     refine GoV.sg (mkF m 156 (Sh19 q1 q2 q3 q4 q5 2 1 b356_e0 b470_e0 b471 b356_e0) [(.int 1)]) (fun t k => XS.iconst X483.here hx rfl (hb hby at_155) k) ?_
     refine GoV.retN X483 hS0 (by rw [e483]; exact f475_184) hx (t := .boolean) Bd.returns (by simp) (hb hby at_156) Bd.notSynchronized ?_ (by decide) (by decide)
     exact ⟨rfl, N483⟩
    ·show GoV p e below s (ValQ (.int (1 : Int32)) n0) room_1.cells room_1.slots (T481.setTop (mkF m 86 (Sh19 q1 q2 q3 q4 q5 2 1 b356_e0 b470_e0 b471 b356_e0) []))
     refine GoV.sg (mkF m 88 (Sh19 q1 q2 q3 q4 q5 2 1 b356_e0 b470_e0 b471 b356_e0) [(.ref b356_e0)]) (fun t k => XS.aload X481.here hx rfl (hb hby at_86) rfl rfl k) ?_
     refine GoV.sg (mkF m 89 (Sh19 q1 q2 q3 q4 q5 2 1 b356_e0 b470_e0 b471 b356_e0) [(.int 0), (.ref b356_e0)]) (fun t k => XS.iconst X481.here hx rfl (hb hby at_88) k) ?_
     obtain ⟨cq484, kq484, q484a, q484b, q484c⟩ := isOf hZ e481 f475_185
     obtain ⟨_, _, ⟨T484, L484, k484, n484⟩, -, X484, ⟨Lc484, hQ484, l484, y484, z484⟩, st484⟩ := X481.virtualBack hx (y := Y14) (z := Y14) hown (mvT hZ (ww hw 71 rfl)) (mvT hZ (ww hw 72 rfl)) (notFace_of_selects (args := #[]) (mvT hZ (ww hw 74 rfl))) (mvT hZ (ww hw 74 rfl)) (mvT hZ (ww hw 73 rfl)) (by decide) (backOf (W := 0) (rm14_49 l Z a0 hw [] b356_e0 b356_e1 k356_ke1 (lat8 (chA q1)) (lat8 (chB q1)) cs af T475.heap n0  f475_185 f475_186 f475_187 f475_188 f475_182 f475_183   ncs ) hZ (ww hw 75 rfl) (ww hw 7 rfl) (by decide) (by decide)) q484a q484c (g := (mkF m 89 (Sh19 q1 q2 q3 q4 q5 2 1 b356_e0 b470_e0 b471 b356_e0) [(.int 0), (.ref b356_e0)])) rfl (by rw [hml]; rfl) (Steps.refl _) (argsL := [(.int (0 : Int32))]) (rest := []) (lenOf pd_28I29C rfl) rfl (by show 2 * 0 + _ ≤ _; exact Nat.le_of_eq rfl) (hb hby at_89) (fun _ _ => ⟨rfl, e481, (by decide : 7 + 0 ≤ _), (by decide : 16 + 0 ≤ _)⟩)
     dsimp only [Pt.U, Pt.locs, Pt.cells, Pt.slots] at X484 l484 y484 z484 st484 hQ484
     subst l484 y484 z484
     obtain ⟨rfl, N484q, e484⟩ := hQ484
     have N484 := Fr.app N481 N484q
     refine GoV.sg (mkF m 92 (Sh19 q1 q2 q3 q4 q5 2 1 b356_e0 b470_e0 b471 b356_e0) [(.int (nar .char (nar .char ((lat8 (chA q1)) &&& (255 : Int32)).toUInt32.toUInt16.toUInt32.toInt32)))]) (fun t k => st484.trans k) ?_
     rw [show (nar .char (nar .char ((lat8 (chA q1)) &&& (255 : Int32)).toUInt32.toUInt16.toUInt32.toInt32)) = (chA q1) from (own_back _ (own_rA q1))]
     refine GoV.sg (mkF m 93 (Sh19 q1 q2 q3 q4 q5 2 1 b356_e0 b470_e0 b471 b356_e0) [(.int q1), (.int (chA q1))]) (fun t k => XS.iloadN X484.here hx rfl (hb hby at_92) rfl k) ?_
     refine GoV.sg (mkF m 96 (Sh19 q1 q2 q3 q4 q5 2 1 b356_e0 b470_e0 b471 b356_e0) [(.int 255), (.int q1), (.int (chA q1))]) (fun t k => XS.sipush X484.here hx rfl (hb hby at_93) k) ?_
     refine GoV.sg (mkF m 97 (Sh19 q1 q2 q3 q4 q5 2 1 b356_e0 b470_e0 b471 b356_e0) [(.int (q1 &&& (255 : Int32))), (.int (chA q1))]) (fun t k => XS.iand X484.here hx rfl (hb hby at_96) rfl k) ?_
     refine GoV.sg (mkF m 98 (Sh19 q1 q2 q3 q4 q5 2 1 b356_e0 b470_e0 b471 b356_e0) [(.int (q1 &&& (255 : Int32)).toUInt32.toUInt16.toUInt32.toInt32), (.int (chA q1))]) (fun t k => XS.i2c X484.here hx rfl (hb hby at_97) rfl k) ?_
     rw [own_cA q1]
     show GoV p e below s (ValQ (.int (1 : Int32)) n0) room_1.cells room_1.slots (T484.setTop (mkF m 98 (Sh19 q1 q2 q3 q4 q5 2 1 b356_e0 b470_e0 b471 b356_e0) [(.int (chA q1)), (.int (chA q1))]))
     refine GoV.sg (mkF m 103 (Sh19 q1 q2 q3 q4 q5 2 1 b356_e0 b470_e0 b471 b356_e0) []) (fun t k => XS.icmpYes X484.here hx rfl (pc0 := 98) (pc' := 103) rfl (hb hby at_98) rfl (teq rfl).1 (by decide) (by decide) k) ?_
     refine GoV.sg (mkF m 105 (Sh19 q1 q2 q3 q4 q5 2 1 b356_e0 b470_e0 b471 b356_e0) [(.int 2)]) (fun t k => XS.iload X484.here hx rfl (hb hby at_103) rfl k) ?_
     refine GoV.sg (mkF m 106 (Sh19 q1 q2 q3 q4 q5 2 1 b356_e0 b470_e0 b471 b356_e0) [(.int 2), (.int 2)]) (fun t k => XS.iconst X484.here hx rfl (hb hby at_105) k) ?_
     refine GoV.sg (mkF m 109 (Sh19 q1 q2 q3 q4 q5 2 1 b356_e0 b470_e0 b471 b356_e0) []) (fun t k => XS.icmpNo X484.here hx rfl (hb hby at_106) rfl (by decide) k) ?_
     refine GoV.sg (mkF m 111 (Sh19 q1 q2 q3 q4 q5 2 1 b356_e0 b470_e0 b471 b356_e0) [(.ref b356_e0)]) (fun t k => XS.aload X484.here hx rfl (hb hby at_109) rfl rfl k) ?_
     refine GoV.sg (mkF m 112 (Sh19 q1 q2 q3 q4 q5 2 1 b356_e0 b470_e0 b471 b356_e0) [(.int 1), (.ref b356_e0)]) (fun t k => XS.iconst X484.here hx rfl (hb hby at_111) k) ?_
     obtain ⟨cq485, kq485, q485a, q485b, q485c⟩ := isOf hZ e484 f475_185
     obtain ⟨_, _, ⟨T485, L485, k485, n485⟩, -, X485, ⟨Lc485, hQ485, l485, y485, z485⟩, st485⟩ := X484.virtualBack hx (y := Y14) (z := Y14) hown (mvT hZ (ww hw 71 rfl)) (mvT hZ (ww hw 72 rfl)) (notFace_of_selects (args := #[]) (mvT hZ (ww hw 74 rfl))) (mvT hZ (ww hw 74 rfl)) (mvT hZ (ww hw 73 rfl)) (by decide) (backOf (W := 0) (rm14_53 l Z a0 hw [] b356_e0 b356_e1 k356_ke1 (lat8 (chA q1)) (lat8 (chB q1)) cs af T475.heap n0  f475_185 f475_186 f475_187 f475_188 f475_182 f475_183   ncs ) hZ (ww hw 75 rfl) (ww hw 7 rfl) (by decide) (by decide)) q485a q485c (g := (mkF m 112 (Sh19 q1 q2 q3 q4 q5 2 1 b356_e0 b470_e0 b471 b356_e0) [(.int 1), (.ref b356_e0)])) rfl (by rw [hml]; rfl) (Steps.refl _) (argsL := [(.int (1 : Int32))]) (rest := []) (lenOf pd_28I29C rfl) rfl (by show 2 * 0 + _ ≤ _; exact Nat.le_of_eq rfl) (hb hby at_112) (fun _ _ => ⟨rfl, e484, (by decide : 7 + 0 ≤ _), (by decide : 16 + 0 ≤ _)⟩)
     dsimp only [Pt.U, Pt.locs, Pt.cells, Pt.slots] at X485 l485 y485 z485 st485 hQ485
     subst l485 y485 z485
     obtain ⟨rfl, N485q, e485⟩ := hQ485
     have N485 := Fr.app N484 N485q
     refine GoV.sg (mkF m 115 (Sh19 q1 q2 q3 q4 q5 2 1 b356_e0 b470_e0 b471 b356_e0) [(.int (nar .char (nar .char ((lat8 (chB q1)) &&& (255 : Int32)).toUInt32.toUInt16.toUInt32.toInt32)))]) (fun t k => st485.trans k) ?_
     rw [show (nar .char (nar .char ((lat8 (chB q1)) &&& (255 : Int32)).toUInt32.toUInt16.toUInt32.toInt32)) = (chB q1) from (own_back _ (own_rB q1))]
     refine GoV.sg (mkF m 116 (Sh19 q1 q2 q3 q4 q5 2 1 b356_e0 b470_e0 b471 b356_e0) [(.int q1), (.int (chB q1))]) (fun t k => XS.iloadN X485.here hx rfl (hb hby at_115) rfl k) ?_
     refine GoV.sg (mkF m 118 (Sh19 q1 q2 q3 q4 q5 2 1 b356_e0 b470_e0 b471 b356_e0) [(.int 8), (.int q1), (.int (chB q1))]) (fun t k => XS.bipush X485.here hx rfl (hb hby at_116) k) ?_
     refine GoV.sg (mkF m 119 (Sh19 q1 q2 q3 q4 q5 2 1 b356_e0 b470_e0 b471 b356_e0) [(.int (q1.toUInt32 >>> ((8 : Int32) &&& 31).toUInt32).toInt32), (.int (chB q1))]) (fun t k => XS.iushr X485.here hx rfl (hb hby at_118) rfl k) ?_
     refine GoV.sg (mkF m 122 (Sh19 q1 q2 q3 q4 q5 2 1 b356_e0 b470_e0 b471 b356_e0) [(.int 255), (.int (q1.toUInt32 >>> ((8 : Int32) &&& 31).toUInt32).toInt32), (.int (chB q1))]) (fun t k => XS.sipush X485.here hx rfl (hb hby at_119) k) ?_
     refine GoV.sg (mkF m 123 (Sh19 q1 q2 q3 q4 q5 2 1 b356_e0 b470_e0 b471 b356_e0) [(.int ((q1.toUInt32 >>> ((8 : Int32) &&& 31).toUInt32).toInt32 &&& (255 : Int32))), (.int (chB q1))]) (fun t k => XS.iand X485.here hx rfl (hb hby at_122) rfl k) ?_
     refine GoV.sg (mkF m 124 (Sh19 q1 q2 q3 q4 q5 2 1 b356_e0 b470_e0 b471 b356_e0) [(.int ((q1.toUInt32 >>> ((8 : Int32) &&& 31).toUInt32).toInt32 &&& (255 : Int32)).toUInt32.toUInt16.toUInt32.toInt32), (.int (chB q1))]) (fun t k => XS.i2c X485.here hx rfl (hb hby at_123) rfl k) ?_
     rw [own_cB q1]
     show GoV p e below s (ValQ (.int (1 : Int32)) n0) room_1.cells room_1.slots (T485.setTop (mkF m 124 (Sh19 q1 q2 q3 q4 q5 2 1 b356_e0 b470_e0 b471 b356_e0) [(.int (chB q1)), (.int (chB q1))]))
     refine GoV.sg (mkF m 129 (Sh19 q1 q2 q3 q4 q5 2 1 b356_e0 b470_e0 b471 b356_e0) []) (fun t k => XS.icmpYes X485.here hx rfl (pc0 := 124) (pc' := 129) rfl (hb hby at_124) rfl (teq rfl).1 (by decide) (by decide) k) ?_
     refine GoV.sg (mkF m 131 (Sh19 q1 q2 q3 q4 q5 2 1 b356_e0 b470_e0 b471 b356_e0) [(.int 2)]) (fun t k => XS.iload X485.here hx rfl (hb hby at_129) rfl k) ?_
     refine GoV.sg (mkF m 132 (Sh19 q1 q2 q3 q4 q5 2 1 b356_e0 b470_e0 b471 b356_e0) [(.int 3), (.int 2)]) (fun t k => XS.iconst X485.here hx rfl (hb hby at_131) k) ?_
     refine GoV.sg (mkF m 155 (Sh19 q1 q2 q3 q4 q5 2 1 b356_e0 b470_e0 b471 b356_e0) []) (fun t k => XS.icmpYes X485.here hx rfl (pc0 := 132) (pc' := 155) rfl (hb hby at_132) rfl (by decide) (by decide) (by decide) k) ?_
     refine GoV.sg (mkF m 156 (Sh19 q1 q2 q3 q4 q5 2 1 b356_e0 b470_e0 b471 b356_e0) [(.int 1)]) (fun t k => XS.iconst X485.here hx rfl (hb hby at_155) k) ?_
     refine GoV.retN X485 hS0 (by rw [e485]; exact f475_184) hx (t := .boolean) Bd.returns (by simp) (hb hby at_156) Bd.notSynchronized ?_ (by decide) (by decide)
     exact ⟨rfl, N485⟩
   ·rw [vv]
    show GoV p e below s (ValQ (.int (1 : Int32)) n0) room_1.cells room_1.slots (T356.setTop (mkF m 37 (Sh15 q1 q2 q3 q4 q5 2 2 b356_e0) []))
    refine GoV.sg (mkF m 39 (Sh15 q1 q2 q3 q4 q5 2 2 b356_e0) [(.int 2)]) (fun t k => XS.iload X356.here hx rfl (hb hby at_37) rfl k) ?_
    refine GoV.sg (mkF m 40 (Sh15 q1 q2 q3 q4 q5 2 2 b356_e0) [(.int q2), (.int 2)]) (fun t k => XS.iloadN X356.here hx rfl (hb hby at_39) rfl k) ?_
    obtain ⟨_, T486, L486, X486, hQ486, st486⟩ := own_callS X356 hx hZ hown (y := Y1) (ww hw 1 rfl) (ww hw 2 rfl) (ww hw 3 rfl) (ww hw 4 rfl) (by decide) 0 (rm1_27 l Z a0 hw [] q2 cs T356.heap n0 f356_131 f356_133   ncs ) (by decide) (by decide) rfl (by decide) (by decide) (g := (mkF m 40 (Sh15 q1 q2 q3 q4 q5 2 2 b356_e0) [(.int q2), (.int 2)])) rfl (by rw [hml]; rfl) (argsL := [(.int (2 : Int32)), (.int q2)]) (rest := []) (lenOf pd_28II29Ljava2flang2fString3b rfl) rfl (by show 2 * 0 + _ ≤ _; exact Nat.le_of_eq rfl) (hb hby at_40)
    obtain ⟨b486_e0, b486_e1, k486_ke1, rfl, N486q, K486, p486_0, p486_1, p486_2, p486_3, hz_b486_e0, hz_b486_e1⟩ := hQ486
    have N486 := Fr.app N356 N486q
    have f486_189 := Nat.le_trans f356_131 K486.1
    have f486_191 := own_staK0 f356_133 K486
    have f486_192 := own_staK0 f356_134 K486
    have f486_193 := Nat.le_trans f356_135 K486.1
    have f486_194 := p356_0.keep K486
    have f486_195 := p356_1.keep K486 nin0
    have f486_196 := p356_2.keep K486 nin0
    have f486_197 := p356_3.keep K486 nin0
    refine GoV.sg (mkF m 43 (Sh15 q1 q2 q3 q4 q5 2 2 b356_e0) [(.ref b486_e0)]) (fun t k => st486 t k) ?_
    refine GoV.sg (mkF m 45 (Sh16 q1 q2 q3 q4 q5 2 2 b356_e0 b486_e0) []) (fun t k => XS.astore X486.here hx rfl (hb hby at_43) rfl rfl (l' := (Sh16 q1 q2 q3 q4 q5 2 2 b356_e0 b486_e0)) rfl k) ?_
    obtain ⟨T487, h487, X487, e487, E487, A487, D487, -, st487⟩ := newO X486 hx hZ hown (ww hw 35 rfl) (ww hw 36 rfl) (ww hw 37 rfl) rfl (g := (mkF m 45 (Sh16 q1 q2 q3 q4 q5 2 2 b356_e0 b486_e0) [])) rfl (hb hby at_45) (by decide) (by decide)
    obtain ⟨b487, g487⟩ : ∃ z, z = T486.heap.size := ⟨_, rfl⟩
    rw [← g487] at A487 D487 st487
    have g_b487 : n0 ≤ b487 := Nat.le_trans f486_189 (Nat.le_of_eq g487.symm)
    have ne_b356_e0_b487 : b356_e0 ≠ b487 := Nat.ne_of_lt (Nat.lt_of_lt_of_eq f486_194.lt g487.symm)
    have ne_b356_e1_b487 : b356_e1 ≠ b487 := Nat.ne_of_lt (Nat.lt_of_lt_of_eq f486_197.lt g487.symm)
    have f487_200 := f486_191.ext E487
    have f487_201 := f486_192.ext E487
    have f487_202 := Nat.le_trans f486_193 E487.1
    have f487_203 := f486_194.ext E487
    have f487_204 := f486_195.ext E487
    have f487_205 := f486_196.ext E487
    have f487_206 := f486_197.ext E487
    have F487name : Fld Z h487 b487 "com/example/relaystack/relaystack/CommandLine$Option" "name" "Ljava/lang/String;" .null := D487 (Or.inr (ww hw 48 rfl)) (ty := (.object "java/lang/String")) (by decide)
    have F487given : Fld Z h487 b487 "com/example/relaystack/relaystack/CommandLine$Option" "given" "Ljava/lang/String;" .null := D487 (Or.inr (ww hw 50 rfl)) (ty := (.object "java/lang/String")) (by decide)
    refine GoV.sg (mkF m 48 (Sh16 q1 q2 q3 q4 q5 2 2 b356_e0 b486_e0) [(.ref b487)]) (fun t k => st487 t k) ?_
    refine GoV.sg (mkF m 49 (Sh16 q1 q2 q3 q4 q5 2 2 b356_e0 b486_e0) [(.ref b487), (.ref b487)]) (fun t k => XS.dup X487.here hx rfl (hb hby at_48) rfl rfl k) ?_
    refine GoV.sg (mkF m 51 (Sh16 q1 q2 q3 q4 q5 2 2 b356_e0 b486_e0) [(.ref b486_e0), (.ref b487), (.ref b487)]) (fun t k => XS.aload X487.here hx rfl (hb hby at_49) rfl rfl k) ?_
    refine GoV.sg (mkF m 53 (Sh16 q1 q2 q3 q4 q5 2 2 b356_e0 b486_e0) [(.ref b356_e0), (.ref b486_e0), (.ref b487), (.ref b487)]) (fun t k => XS.aload X487.here hx rfl (hb hby at_51) rfl rfl k) ?_
    obtain ⟨_, _, ⟨T488, L488, k488, n488⟩, -, X488, ⟨Lc488, hQ488, l488, y488, z488⟩, st488⟩ := X487.specialBack hx (y := Y8) rfl hown (mvT hZ (ww hw 38 rfl)) (mvT hZ (ww hw 39 rfl)) (mvT hZ (ww hw 40 rfl)) (by decide) (backOf (W := 1) (rm8_8 l Z a0 hw [] b487 b486_e0 b356_e0  h487 n0  A487 F487given F487name g_b487   ) hZ (ww hw 40 rfl) (ww hw 37 rfl) (by decide) (by decide)) (g := (mkF m 53 (Sh16 q1 q2 q3 q4 q5 2 2 b356_e0 b486_e0) [(.ref b356_e0), (.ref b486_e0), (.ref b487), (.ref b487)])) rfl (by rw [hml]; rfl) (Steps.refl _) (a := b487) (argsL := [(.ref b486_e0), (.ref b356_e0)]) (rest := [(.ref b487)]) (lenOf pd_28Ljava2flang2fString3bLjava2flang2fString3b29V rfl) rfl (by show 2 * 0 + _ ≤ _; exact Nat.le_of_eq rfl) (hb hby at_53) (fun _ _ => ⟨rfl, e487, (by decide : 7 + 0 ≤ _), (by decide : 18 + 0 ≤ _)⟩)
    dsimp only [Pt.U, Pt.locs, Pt.cells, Pt.slots] at X488 l488 y488 z488 st488 hQ488
    subst l488 y488 z488
    obtain ⟨rfl, N488q, K488, p488_0, p488_1, p488_2⟩ := hQ488
    have N488 := Fr.app N486 N488q
    have f488_209 := own_staK f487_200 K488 (allS (own_nsE A487) all0)
    have f488_210 := own_staK f487_201 K488 (allS (own_nsE A487) all0)
    have f488_211 := Nat.le_trans f487_202 K488.1
    have f488_212 := f487_203.keep K488
    have f488_213 := f487_204.keep K488 (ninS ne_b356_e0_b487 nin0)
    have f488_214 := f487_205.keep K488 (ninS ne_b356_e0_b487 nin0)
    have f488_215 := f487_206.keep K488 (ninS ne_b356_e1_b487 nin0)
    refine GoV.sg (mkF m 56 (Sh16 q1 q2 q3 q4 q5 2 2 b356_e0 b486_e0) [(.ref b487)]) (fun t k => st488.trans k) ?_
    refine GoV.sg (mkF m 58 (Sh18 q1 q2 q3 q4 q5 2 2 b356_e0 b486_e0 b487) []) (fun t k => XS.astore X488.here hx rfl (hb hby at_56) rfl rfl (l' := (Sh18 q1 q2 q3 q4 q5 2 2 b356_e0 b486_e0 b487)) rfl k) ?_
    refine GoV.sg (mkF m 60 (Sh18 q1 q2 q3 q4 q5 2 2 b356_e0 b486_e0 b487) [(.ref b487)]) (fun t k => XS.aload X488.here hx rfl (hb hby at_58) rfl rfl k) ?_
    obtain ⟨cq489, kq489, q489a, q489b, q489c⟩ := isOf hZ rfl p488_0
    obtain ⟨_, _, ⟨T489, L489, k489, n489⟩, -, X489, ⟨Lc489, hQ489, l489, y489, z489⟩, st489⟩ := X488.virtualBack hx (y := Y10) (z := Y10) hown (mvT hZ (ww hw 51 rfl)) (mvT hZ (ww hw 52 rfl)) (notFace_of_selects (args := #[]) (mvT hZ (ww hw 54 rfl))) (mvT hZ (ww hw 54 rfl)) (mvT hZ (ww hw 53 rfl)) (by decide) (backOf (W := 0) (rm10_36 l Z a0 hw [] b487 b356_e0 b356_e1 k356_ke1 (lat8 (chA q1)) (lat8 (chB q1)) T488.heap n0  f488_212 p488_1 f488_214 f488_215    ) hZ (ww hw 55 rfl) (ww hw 37 rfl) (by decide) (by decide)) q489a q489c (g := (mkF m 60 (Sh18 q1 q2 q3 q4 q5 2 2 b356_e0 b486_e0 b487) [(.ref b487)])) rfl (by rw [hml]; rfl) (Steps.refl _) (argsL := []) (rest := []) (lenOf pd_2829Ljava2flang2fString3b rfl) rfl (by show 2 * 0 + _ ≤ _; exact Nat.le_of_eq rfl) (hb hby at_60) (fun _ _ => ⟨rfl, rfl, (by decide : 7 + 0 ≤ _), (by decide : 18 + 0 ≤ _)⟩)
    dsimp only [Pt.U, Pt.locs, Pt.cells, Pt.slots] at X489 l489 y489 z489 st489 hQ489
    subst l489 y489 z489
    obtain ⟨rfl, N489q, e489⟩ := hQ489
    have N489 := Fr.app N488 N489q
    refine GoV.sg (mkF m 63 (Sh18 q1 q2 q3 q4 q5 2 2 b356_e0 b486_e0 b487) [(.ref b356_e0)]) (fun t k => st489.trans k) ?_
    refine GoV.sg (mkF m 65 (Sh19 q1 q2 q3 q4 q5 2 2 b356_e0 b486_e0 b487 b356_e0) []) (fun t k => XS.astore X489.here hx rfl (hb hby at_63) rfl rfl (l' := (Sh19 q1 q2 q3 q4 q5 2 2 b356_e0 b486_e0 b487 b356_e0)) rfl k) ?_
    refine GoV.sg (mkF m 67 (Sh19 q1 q2 q3 q4 q5 2 2 b356_e0 b486_e0 b487 b356_e0) [(.ref b356_e0)]) (fun t k => XS.aload X489.here hx rfl (hb hby at_65) rfl rfl k) ?_
    refine GoV.sg (mkF m 69 (Sh19 q1 q2 q3 q4 q5 2 2 b356_e0 b486_e0 b487 b356_e0) [(.ref b356_e0), (.ref b356_e0)]) (fun t k => XS.aload X489.here hx rfl (hb hby at_67) rfl rfl k) ?_
    refine GoV.sg (mkF m 74 (Sh19 q1 q2 q3 q4 q5 2 2 b356_e0 b486_e0 b487 b356_e0) []) (fun t k => Jvm.RoadKit.acmp X489 hx rfl (cd := .eq) (x := (.ref b356_e0)) (y := (.ref b356_e0)) rfl rfl (pc0 := 69) (pc' := 74) (same := true) rfl (hb hby at_69) rfl (decide_eq_true rfl) (by decide) (by decide) k) ?_
    refine GoV.sg (mkF m 76 (Sh19 q1 q2 q3 q4 q5 2 2 b356_e0 b486_e0 b487 b356_e0) [(.ref b356_e0)]) (fun t k => XS.aload X489.here hx rfl (hb hby at_74) rfl rfl k) ?_
    obtain ⟨cq490, kq490, q490a, q490b, q490c⟩ := isOf hZ e489 f488_212
    obtain ⟨_, _, ⟨T490, L490, k490, n490⟩, -, X490, ⟨Lc490, hQ490, l490, y490, z490⟩, st490⟩ := X489.virtualBack hx (y := Y12) (z := Y12) hown (mvT hZ (ww hw 61 rfl)) (mvT hZ (ww hw 62 rfl)) (notFace_of_selects (args := #[]) (mvT hZ (ww hw 64 rfl))) (mvT hZ (ww hw 64 rfl)) (mvT hZ (ww hw 63 rfl)) (by decide) (backOf (W := 0) (rm12_37 l Z a0 hw [] b356_e0 b356_e1 k356_ke1 (lat8 (chA q1)) (lat8 (chB q1)) cs T488.heap n0  f488_212 f488_213 f488_214 f488_215 f488_209   ncs ) hZ (ww hw 65 rfl) (ww hw 7 rfl) (by decide) (by decide)) q490a q490c (g := (mkF m 76 (Sh19 q1 q2 q3 q4 q5 2 2 b356_e0 b486_e0 b487 b356_e0) [(.ref b356_e0)])) rfl (by rw [hml]; rfl) (Steps.refl _) (argsL := []) (rest := []) (lenOf pd_2829I rfl) rfl (by show 2 * 0 + _ ≤ _; exact Nat.le_of_eq rfl) (hb hby at_76) (fun _ _ => ⟨rfl, e489, (by decide : 7 + 0 ≤ _), (by decide : 18 + 0 ≤ _)⟩)
    dsimp only [Pt.U, Pt.locs, Pt.cells, Pt.slots] at X490 l490 y490 z490 st490 hQ490
    subst l490 y490 z490
    obtain ⟨rfl, N490q, e490⟩ := hQ490
    have N490 := Fr.app N489 N490q
    refine GoV.sg (mkF m 79 (Sh19 q1 q2 q3 q4 q5 2 2 b356_e0 b486_e0 b487 b356_e0) [(.int 2)]) (fun t k => st490.trans k) ?_
    refine GoV.sg (mkF m 81 (Sh19 q1 q2 q3 q4 q5 2 2 b356_e0 b486_e0 b487 b356_e0) [(.int 2), (.int 2)]) (fun t k => XS.iload X490.here hx rfl (hb hby at_79) rfl k) ?_
    refine GoV.sg (mkF m 86 (Sh19 q1 q2 q3 q4 q5 2 2 b356_e0 b486_e0 b487 b356_e0) []) (fun t k => XS.icmpYes X490.here hx rfl (pc0 := 81) (pc' := 86) rfl (hb hby at_81) rfl (by decide) (by decide) (by decide) k) ?_
    rcases ref_cases hvf with rfl | ⟨af, rfl⟩
    ·show GoV p e below s (ValQ (.int (1 : Int32)) n0) room_1.cells room_1.slots (T490.setTop (mkF m 86 (Sh19 q1 q2 q3 q4 q5 2 2 b356_e0 b486_e0 b487 b356_e0) []))
     refine GoV.sg (mkF m 88 (Sh19 q1 q2 q3 q4 q5 2 2 b356_e0 b486_e0 b487 b356_e0) [(.ref b356_e0)]) (fun t k => XS.aload X490.here hx rfl (hb hby at_86) rfl rfl k) ?_
     refine GoV.sg (mkF m 89 (Sh19 q1 q2 q3 q4 q5 2 2 b356_e0 b486_e0 b487 b356_e0) [(.int 0), (.ref b356_e0)]) (fun t k => XS.iconst X490.here hx rfl (hb hby at_88) k) ?_
     obtain ⟨cq491, kq491, q491a, q491b, q491c⟩ := isOf hZ e490 f488_212
     obtain ⟨_, _, ⟨T491, L491, k491, n491⟩, -, X491, ⟨Lc491, hQ491, l491, y491, z491⟩, st491⟩ := X490.virtualBack hx (y := Y14) (z := Y14) hown (mvT hZ (ww hw 71 rfl)) (mvT hZ (ww hw 72 rfl)) (notFace_of_selects (args := #[]) (mvT hZ (ww hw 74 rfl))) (mvT hZ (ww hw 74 rfl)) (mvT hZ (ww hw 73 rfl)) (by decide) (backOf (W := 0) (rm14_41 l Z a0 hw [] b356_e0 b356_e1 k356_ke1 (lat8 (chA q1)) (lat8 (chB q1)) cs T488.heap n0  f488_212 f488_213 f488_214 f488_215 f488_209 f488_210   ncs ) hZ (ww hw 75 rfl) (ww hw 7 rfl) (by decide) (by decide)) q491a q491c (g := (mkF m 89 (Sh19 q1 q2 q3 q4 q5 2 2 b356_e0 b486_e0 b487 b356_e0) [(.int 0), (.ref b356_e0)])) rfl (by rw [hml]; rfl) (Steps.refl _) (argsL := [(.int (0 : Int32))]) (rest := []) (lenOf pd_28I29C rfl) rfl (by show 2 * 0 + _ ≤ _; exact Nat.le_of_eq rfl) (hb hby at_89) (fun _ _ => ⟨rfl, e490, (by decide : 7 + 0 ≤ _), (by decide : 18 + 0 ≤ _)⟩)
     dsimp only [Pt.U, Pt.locs, Pt.cells, Pt.slots] at X491 l491 y491 z491 st491 hQ491
     subst l491 y491 z491
     obtain ⟨rfl, N491q, e491⟩ := hQ491
     have N491 := Fr.app N490 N491q
     refine GoV.sg (mkF m 92 (Sh19 q1 q2 q3 q4 q5 2 2 b356_e0 b486_e0 b487 b356_e0) [(.int (nar .char (nar .char ((lat8 (chA q1)) &&& (255 : Int32)).toUInt32.toUInt16.toUInt32.toInt32)))]) (fun t k => st491.trans k) ?_
     rw [show (nar .char (nar .char ((lat8 (chA q1)) &&& (255 : Int32)).toUInt32.toUInt16.toUInt32.toInt32)) = (chA q1) from (own_back _ (own_rA q1))]
     refine GoV.sg (mkF m 93 (Sh19 q1 q2 q3 q4 q5 2 2 b356_e0 b486_e0 b487 b356_e0) [(.int q1), (.int (chA q1))]) (fun t k => XS.iloadN X491.here hx rfl (hb hby at_92) rfl k) ?_
     refine GoV.sg (mkF m 96 (Sh19 q1 q2 q3 q4 q5 2 2 b356_e0 b486_e0 b487 b356_e0) [(.int 255), (.int q1), (.int (chA q1))]) (fun t k => XS.sipush X491.here hx rfl (hb hby at_93) k) ?_
     refine GoV.sg (mkF m 97 (Sh19 q1 q2 q3 q4 q5 2 2 b356_e0 b486_e0 b487 b356_e0) [(.int (q1 &&& (255 : Int32))), (.int (chA q1))]) (fun t k => XS.iand X491.here hx rfl (hb hby at_96) rfl k) ?_
     refine GoV.sg (mkF m 98 (Sh19 q1 q2 q3 q4 q5 2 2 b356_e0 b486_e0 b487 b356_e0) [(.int (q1 &&& (255 : Int32)).toUInt32.toUInt16.toUInt32.toInt32), (.int (chA q1))]) (fun t k => XS.i2c X491.here hx rfl (hb hby at_97) rfl k) ?_
     rw [own_cA q1]
     show GoV p e below s (ValQ (.int (1 : Int32)) n0) room_1.cells room_1.slots (T491.setTop (mkF m 98 (Sh19 q1 q2 q3 q4 q5 2 2 b356_e0 b486_e0 b487 b356_e0) [(.int (chA q1)), (.int (chA q1))]))
     refine GoV.sg (mkF m 103 (Sh19 q1 q2 q3 q4 q5 2 2 b356_e0 b486_e0 b487 b356_e0) []) (fun t k => XS.icmpYes X491.here hx rfl (pc0 := 98) (pc' := 103) rfl (hb hby at_98) rfl (teq rfl).1 (by decide) (by decide) k) ?_
     refine GoV.sg (mkF m 105 (Sh19 q1 q2 q3 q4 q5 2 2 b356_e0 b486_e0 b487 b356_e0) [(.int 2)]) (fun t k => XS.iload X491.here hx rfl (hb hby at_103) rfl k) ?_
     refine GoV.sg (mkF m 106 (Sh19 q1 q2 q3 q4 q5 2 2 b356_e0 b486_e0 b487 b356_e0) [(.int 2), (.int 2)]) (fun t k => XS.iconst X491.here hx rfl (hb hby at_105) k) ?_
     refine GoV.sg (mkF m 109 (Sh19 q1 q2 q3 q4 q5 2 2 b356_e0 b486_e0 b487 b356_e0) []) (fun t k => XS.icmpNo X491.here hx rfl (hb hby at_106) rfl (by decide) k) ?_
     refine GoV.sg (mkF m 111 (Sh19 q1 q2 q3 q4 q5 2 2 b356_e0 b486_e0 b487 b356_e0) [(.ref b356_e0)]) (fun t k => XS.aload X491.here hx rfl (hb hby at_109) rfl rfl k) ?_
     refine GoV.sg (mkF m 112 (Sh19 q1 q2 q3 q4 q5 2 2 b356_e0 b486_e0 b487 b356_e0) [(.int 1), (.ref b356_e0)]) (fun t k => XS.iconst X491.here hx rfl (hb hby at_111) k) ?_
     obtain ⟨cq492, kq492, q492a, q492b, q492c⟩ := isOf hZ e491 f488_212
     obtain ⟨_, _, ⟨T492, L492, k492, n492⟩, -, X492, ⟨Lc492, hQ492, l492, y492, z492⟩, st492⟩ := X491.virtualBack hx (y := Y14) (z := Y14) hown (mvT hZ (ww hw 71 rfl)) (mvT hZ (ww hw 72 rfl)) (notFace_of_selects (args := #[]) (mvT hZ (ww hw 74 rfl))) (mvT hZ (ww hw 74 rfl)) (mvT hZ (ww hw 73 rfl)) (by decide) (backOf (W := 0) (rm14_45 l Z a0 hw [] b356_e0 b356_e1 k356_ke1 (lat8 (chA q1)) (lat8 (chB q1)) cs T488.heap n0  f488_212 f488_213 f488_214 f488_215 f488_209 f488_210   ncs ) hZ (ww hw 75 rfl) (ww hw 7 rfl) (by decide) (by decide)) q492a q492c (g := (mkF m 112 (Sh19 q1 q2 q3 q4 q5 2 2 b356_e0 b486_e0 b487 b356_e0) [(.int 1), (.ref b356_e0)])) rfl (by rw [hml]; rfl) (Steps.refl _) (argsL := [(.int (1 : Int32))]) (rest := []) (lenOf pd_28I29C rfl) rfl (by show 2 * 0 + _ ≤ _; exact Nat.le_of_eq rfl) (hb hby at_112) (fun _ _ => ⟨rfl, e491, (by decide : 7 + 0 ≤ _), (by decide : 18 + 0 ≤ _)⟩)
     dsimp only [Pt.U, Pt.locs, Pt.cells, Pt.slots] at X492 l492 y492 z492 st492 hQ492
     subst l492 y492 z492
     obtain ⟨rfl, N492q, e492⟩ := hQ492
     have N492 := Fr.app N491 N492q
     refine GoV.sg (mkF m 115 (Sh19 q1 q2 q3 q4 q5 2 2 b356_e0 b486_e0 b487 b356_e0) [(.int (nar .char (nar .char ((lat8 (chB q1)) &&& (255 : Int32)).toUInt32.toUInt16.toUInt32.toInt32)))]) (fun t k => st492.trans k) ?_
     rw [show (nar .char (nar .char ((lat8 (chB q1)) &&& (255 : Int32)).toUInt32.toUInt16.toUInt32.toInt32)) = (chB q1) from (own_back _ (own_rB q1))]
     refine GoV.sg (mkF m 116 (Sh19 q1 q2 q3 q4 q5 2 2 b356_e0 b486_e0 b487 b356_e0) [(.int q1), (.int (chB q1))]) (fun t k => XS.iloadN X492.here hx rfl (hb hby at_115) rfl k) ?_
     refine GoV.sg (mkF m 118 (Sh19 q1 q2 q3 q4 q5 2 2 b356_e0 b486_e0 b487 b356_e0) [(.int 8), (.int q1), (.int (chB q1))]) (fun t k => XS.bipush X492.here hx rfl (hb hby at_116) k) ?_
     refine GoV.sg (mkF m 119 (Sh19 q1 q2 q3 q4 q5 2 2 b356_e0 b486_e0 b487 b356_e0) [(.int (q1.toUInt32 >>> ((8 : Int32) &&& 31).toUInt32).toInt32), (.int (chB q1))]) (fun t k => XS.iushr X492.here hx rfl (hb hby at_118) rfl k) ?_
     refine GoV.sg (mkF m 122 (Sh19 q1 q2 q3 q4 q5 2 2 b356_e0 b486_e0 b487 b356_e0) [(.int 255), (.int (q1.toUInt32 >>> ((8 : Int32) &&& 31).toUInt32).toInt32), (.int (chB q1))]) (fun t k => XS.sipush X492.here hx rfl (hb hby at_119) k) ?_
     refine GoV.sg (mkF m 123 (Sh19 q1 q2 q3 q4 q5 2 2 b356_e0 b486_e0 b487 b356_e0) [(.int ((q1.toUInt32 >>> ((8 : Int32) &&& 31).toUInt32).toInt32 &&& (255 : Int32))), (.int (chB q1))]) (fun t k => XS.iand X492.here hx rfl (hb hby at_122) rfl k) ?_
     refine GoV.sg (mkF m 124 (Sh19 q1 q2 q3 q4 q5 2 2 b356_e0 b486_e0 b487 b356_e0) [(.int ((q1.toUInt32 >>> ((8 : Int32) &&& 31).toUInt32).toInt32 &&& (255 : Int32)).toUInt32.toUInt16.toUInt32.toInt32), (.int (chB q1))]) (fun t k => XS.i2c X492.here hx rfl (hb hby at_123) rfl k) ?_
     rw [own_cB q1]
     show GoV p e below s (ValQ (.int (1 : Int32)) n0) room_1.cells room_1.slots (T492.setTop (mkF m 124 (Sh19 q1 q2 q3 q4 q5 2 2 b356_e0 b486_e0 b487 b356_e0) [(.int (chB q1)), (.int (chB q1))]))
     refine GoV.sg (mkF m 129 (Sh19 q1 q2 q3 q4 q5 2 2 b356_e0 b486_e0 b487 b356_e0) []) (fun t k => XS.icmpYes X492.here hx rfl (pc0 := 124) (pc' := 129) rfl (hb hby at_124) rfl (teq rfl).1 (by decide) (by decide) k) ?_
     refine GoV.sg (mkF m 131 (Sh19 q1 q2 q3 q4 q5 2 2 b356_e0 b486_e0 b487 b356_e0) [(.int 2)]) (fun t k => XS.iload X492.here hx rfl (hb hby at_129) rfl k) ?_
     refine GoV.sg (mkF m 132 (Sh19 q1 q2 q3 q4 q5 2 2 b356_e0 b486_e0 b487 b356_e0) [(.int 3), (.int 2)]) (fun t k => XS.iconst X492.here hx rfl (hb hby at_131) k) ?_
     refine GoV.sg (mkF m 155 (Sh19 q1 q2 q3 q4 q5 2 2 b356_e0 b486_e0 b487 b356_e0) []) (fun t k => XS.icmpYes X492.here hx rfl (pc0 := 132) (pc' := 155) rfl (hb hby at_132) rfl (by decide) (by decide) (by decide) k) ?_
     refine GoV.sg (mkF m 156 (Sh19 q1 q2 q3 q4 q5 2 2 b356_e0 b486_e0 b487 b356_e0) [(.int 1)]) (fun t k => XS.iconst X492.here hx rfl (hb hby at_155) k) ?_
     refine GoV.retN X492 hS0 (by rw [e492]; exact f488_211) hx (t := .boolean) Bd.returns (by simp) (hb hby at_156) Bd.notSynchronized ?_ (by decide) (by decide)
     exact ⟨rfl, N492⟩
    ·show GoV p e below s (ValQ (.int (1 : Int32)) n0) room_1.cells room_1.slots (T490.setTop (mkF m 86 (Sh19 q1 q2 q3 q4 q5 2 2 b356_e0 b486_e0 b487 b356_e0) []))
     refine GoV.sg (mkF m 88 (Sh19 q1 q2 q3 q4 q5 2 2 b356_e0 b486_e0 b487 b356_e0) [(.ref b356_e0)]) (fun t k => XS.aload X490.here hx rfl (hb hby at_86) rfl rfl k) ?_
     refine GoV.sg (mkF m 89 (Sh19 q1 q2 q3 q4 q5 2 2 b356_e0 b486_e0 b487 b356_e0) [(.int 0), (.ref b356_e0)]) (fun t k => XS.iconst X490.here hx rfl (hb hby at_88) k) ?_
     obtain ⟨cq493, kq493, q493a, q493b, q493c⟩ := isOf hZ e490 f488_212
     obtain ⟨_, _, ⟨T493, L493, k493, n493⟩, -, X493, ⟨Lc493, hQ493, l493, y493, z493⟩, st493⟩ := X490.virtualBack hx (y := Y14) (z := Y14) hown (mvT hZ (ww hw 71 rfl)) (mvT hZ (ww hw 72 rfl)) (notFace_of_selects (args := #[]) (mvT hZ (ww hw 74 rfl))) (mvT hZ (ww hw 74 rfl)) (mvT hZ (ww hw 73 rfl)) (by decide) (backOf (W := 0) (rm14_49 l Z a0 hw [] b356_e0 b356_e1 k356_ke1 (lat8 (chA q1)) (lat8 (chB q1)) cs af T488.heap n0  f488_212 f488_213 f488_214 f488_215 f488_209 f488_210   ncs ) hZ (ww hw 75 rfl) (ww hw 7 rfl) (by decide) (by decide)) q493a q493c (g := (mkF m 89 (Sh19 q1 q2 q3 q4 q5 2 2 b356_e0 b486_e0 b487 b356_e0) [(.int 0), (.ref b356_e0)])) rfl (by rw [hml]; rfl) (Steps.refl _) (argsL := [(.int (0 : Int32))]) (rest := []) (lenOf pd_28I29C rfl) rfl (by show 2 * 0 + _ ≤ _; exact Nat.le_of_eq rfl) (hb hby at_89) (fun _ _ => ⟨rfl, e490, (by decide : 7 + 0 ≤ _), (by decide : 18 + 0 ≤ _)⟩)
     dsimp only [Pt.U, Pt.locs, Pt.cells, Pt.slots] at X493 l493 y493 z493 st493 hQ493
     subst l493 y493 z493
     obtain ⟨rfl, N493q, e493⟩ := hQ493
     have N493 := Fr.app N490 N493q
     refine GoV.sg (mkF m 92 (Sh19 q1 q2 q3 q4 q5 2 2 b356_e0 b486_e0 b487 b356_e0) [(.int (nar .char (nar .char ((lat8 (chA q1)) &&& (255 : Int32)).toUInt32.toUInt16.toUInt32.toInt32)))]) (fun t k => st493.trans k) ?_
     rw [show (nar .char (nar .char ((lat8 (chA q1)) &&& (255 : Int32)).toUInt32.toUInt16.toUInt32.toInt32)) = (chA q1) from (own_back _ (own_rA q1))]
     refine GoV.sg (mkF m 93 (Sh19 q1 q2 q3 q4 q5 2 2 b356_e0 b486_e0 b487 b356_e0) [(.int q1), (.int (chA q1))]) (fun t k => XS.iloadN X493.here hx rfl (hb hby at_92) rfl k) ?_
     refine GoV.sg (mkF m 96 (Sh19 q1 q2 q3 q4 q5 2 2 b356_e0 b486_e0 b487 b356_e0) [(.int 255), (.int q1), (.int (chA q1))]) (fun t k => XS.sipush X493.here hx rfl (hb hby at_93) k) ?_
     refine GoV.sg (mkF m 97 (Sh19 q1 q2 q3 q4 q5 2 2 b356_e0 b486_e0 b487 b356_e0) [(.int (q1 &&& (255 : Int32))), (.int (chA q1))]) (fun t k => XS.iand X493.here hx rfl (hb hby at_96) rfl k) ?_
     refine GoV.sg (mkF m 98 (Sh19 q1 q2 q3 q4 q5 2 2 b356_e0 b486_e0 b487 b356_e0) [(.int (q1 &&& (255 : Int32)).toUInt32.toUInt16.toUInt32.toInt32), (.int (chA q1))]) (fun t k => XS.i2c X493.here hx rfl (hb hby at_97) rfl k) ?_
     rw [own_cA q1]
     show GoV p e below s (ValQ (.int (1 : Int32)) n0) room_1.cells room_1.slots (T493.setTop (mkF m 98 (Sh19 q1 q2 q3 q4 q5 2 2 b356_e0 b486_e0 b487 b356_e0) [(.int (chA q1)), (.int (chA q1))]))
     refine GoV.sg (mkF m 103 (Sh19 q1 q2 q3 q4 q5 2 2 b356_e0 b486_e0 b487 b356_e0) []) (fun t k => XS.icmpYes X493.here hx rfl (pc0 := 98) (pc' := 103) rfl (hb hby at_98) rfl (teq rfl).1 (by decide) (by decide) k) ?_
     refine GoV.sg (mkF m 105 (Sh19 q1 q2 q3 q4 q5 2 2 b356_e0 b486_e0 b487 b356_e0) [(.int 2)]) (fun t k => XS.iload X493.here hx rfl (hb hby at_103) rfl k) ?_
     refine GoV.sg (mkF m 106 (Sh19 q1 q2 q3 q4 q5 2 2 b356_e0 b486_e0 b487 b356_e0) [(.int 2), (.int 2)]) (fun t k => XS.iconst X493.here hx rfl (hb hby at_105) k) ?_
     refine GoV.sg (mkF m 109 (Sh19 q1 q2 q3 q4 q5 2 2 b356_e0 b486_e0 b487 b356_e0) []) (fun t k => XS.icmpNo X493.here hx rfl (hb hby at_106) rfl (by decide) k) ?_
     refine GoV.sg (mkF m 111 (Sh19 q1 q2 q3 q4 q5 2 2 b356_e0 b486_e0 b487 b356_e0) [(.ref b356_e0)]) (fun t k => XS.aload X493.here hx rfl (hb hby at_109) rfl rfl k) ?_
     refine GoV.sg (mkF m 112 (Sh19 q1 q2 q3 q4 q5 2 2 b356_e0 b486_e0 b487 b356_e0) [(.int 1), (.ref b356_e0)]) (fun t k => XS.iconst X493.here hx rfl (hb hby at_111) k) ?_
     obtain ⟨cq494, kq494, q494a, q494b, q494c⟩ := isOf hZ e493 f488_212
     obtain ⟨_, _, ⟨T494, L494, k494, n494⟩, -, X494, ⟨Lc494, hQ494, l494, y494, z494⟩, st494⟩ := X493.virtualBack hx (y := Y14) (z := Y14) hown (mvT hZ (ww hw 71 rfl)) (mvT hZ (ww hw 72 rfl)) (notFace_of_selects (args := #[]) (mvT hZ (ww hw 74 rfl))) (mvT hZ (ww hw 74 rfl)) (mvT hZ (ww hw 73 rfl)) (by decide) (backOf (W := 0) (rm14_53 l Z a0 hw [] b356_e0 b356_e1 k356_ke1 (lat8 (chA q1)) (lat8 (chB q1)) cs af T488.heap n0  f488_212 f488_213 f488_214 f488_215 f488_209 f488_210   ncs ) hZ (ww hw 75 rfl) (ww hw 7 rfl) (by decide) (by decide)) q494a q494c (g := (mkF m 112 (Sh19 q1 q2 q3 q4 q5 2 2 b356_e0 b486_e0 b487 b356_e0) [(.int 1), (.ref b356_e0)])) rfl (by rw [hml]; rfl) (Steps.refl _) (argsL := [(.int (1 : Int32))]) (rest := []) (lenOf pd_28I29C rfl) rfl (by show 2 * 0 + _ ≤ _; exact Nat.le_of_eq rfl) (hb hby at_112) (fun _ _ => ⟨rfl, e493, (by decide : 7 + 0 ≤ _), (by decide : 18 + 0 ≤ _)⟩)
     dsimp only [Pt.U, Pt.locs, Pt.cells, Pt.slots] at X494 l494 y494 z494 st494 hQ494
     subst l494 y494 z494
     obtain ⟨rfl, N494q, e494⟩ := hQ494
     have N494 := Fr.app N493 N494q
     refine GoV.sg (mkF m 115 (Sh19 q1 q2 q3 q4 q5 2 2 b356_e0 b486_e0 b487 b356_e0) [(.int (nar .char (nar .char ((lat8 (chB q1)) &&& (255 : Int32)).toUInt32.toUInt16.toUInt32.toInt32)))]) (fun t k => st494.trans k) ?_
     rw [show (nar .char (nar .char ((lat8 (chB q1)) &&& (255 : Int32)).toUInt32.toUInt16.toUInt32.toInt32)) = (chB q1) from (own_back _ (own_rB q1))]
     refine GoV.sg (mkF m 116 (Sh19 q1 q2 q3 q4 q5 2 2 b356_e0 b486_e0 b487 b356_e0) [(.int q1), (.int (chB q1))]) (fun t k => XS.iloadN X494.here hx rfl (hb hby at_115) rfl k) ?_
     refine GoV.sg (mkF m 118 (Sh19 q1 q2 q3 q4 q5 2 2 b356_e0 b486_e0 b487 b356_e0) [(.int 8), (.int q1), (.int (chB q1))]) (fun t k => XS.bipush X494.here hx rfl (hb hby at_116) k) ?_
     refine GoV.sg (mkF m 119 (Sh19 q1 q2 q3 q4 q5 2 2 b356_e0 b486_e0 b487 b356_e0) [(.int (q1.toUInt32 >>> ((8 : Int32) &&& 31).toUInt32).toInt32), (.int (chB q1))]) (fun t k => XS.iushr X494.here hx rfl (hb hby at_118) rfl k) ?_
     refine GoV.sg (mkF m 122 (Sh19 q1 q2 q3 q4 q5 2 2 b356_e0 b486_e0 b487 b356_e0) [(.int 255), (.int (q1.toUInt32 >>> ((8 : Int32) &&& 31).toUInt32).toInt32), (.int (chB q1))]) (fun t k => XS.sipush X494.here hx rfl (hb hby at_119) k) ?_
     refine GoV.sg (mkF m 123 (Sh19 q1 q2 q3 q4 q5 2 2 b356_e0 b486_e0 b487 b356_e0) [(.int ((q1.toUInt32 >>> ((8 : Int32) &&& 31).toUInt32).toInt32 &&& (255 : Int32))), (.int (chB q1))]) (fun t k => XS.iand X494.here hx rfl (hb hby at_122) rfl k) ?_
     refine GoV.sg (mkF m 124 (Sh19 q1 q2 q3 q4 q5 2 2 b356_e0 b486_e0 b487 b356_e0) [(.int ((q1.toUInt32 >>> ((8 : Int32) &&& 31).toUInt32).toInt32 &&& (255 : Int32)).toUInt32.toUInt16.toUInt32.toInt32), (.int (chB q1))]) (fun t k => XS.i2c X494.here hx rfl (hb hby at_123) rfl k) ?_
     rw [own_cB q1]
     show GoV p e below s (ValQ (.int (1 : Int32)) n0) room_1.cells room_1.slots (T494.setTop (mkF m 124 (Sh19 q1 q2 q3 q4 q5 2 2 b356_e0 b486_e0 b487 b356_e0) [(.int (chB q1)), (.int (chB q1))]))
     refine GoV.sg (mkF m 129 (Sh19 q1 q2 q3 q4 q5 2 2 b356_e0 b486_e0 b487 b356_e0) []) (fun t k => XS.icmpYes X494.here hx rfl (pc0 := 124) (pc' := 129) rfl (hb hby at_124) rfl (teq rfl).1 (by decide) (by decide) k) ?_
     refine GoV.sg (mkF m 131 (Sh19 q1 q2 q3 q4 q5 2 2 b356_e0 b486_e0 b487 b356_e0) [(.int 2)]) (fun t k => XS.iload X494.here hx rfl (hb hby at_129) rfl k) ?_
     refine GoV.sg (mkF m 132 (Sh19 q1 q2 q3 q4 q5 2 2 b356_e0 b486_e0 b487 b356_e0) [(.int 3), (.int 2)]) (fun t k => XS.iconst X494.here hx rfl (hb hby at_131) k) ?_
     refine GoV.sg (mkF m 155 (Sh19 q1 q2 q3 q4 q5 2 2 b356_e0 b486_e0 b487 b356_e0) []) (fun t k => XS.icmpYes X494.here hx rfl (pc0 := 132) (pc' := 155) rfl (hb hby at_132) rfl (by decide) (by decide) (by decide) k) ?_
     refine GoV.sg (mkF m 156 (Sh19 q1 q2 q3 q4 q5 2 2 b356_e0 b486_e0 b487 b356_e0) [(.int 1)]) (fun t k => XS.iconst X494.here hx rfl (hb hby at_155) k) ?_
     refine GoV.retN X494 hS0 (by rw [e494]; exact f488_211) hx (t := .boolean) Bd.returns (by simp) (hb hby at_156) Bd.notSynchronized ?_ (by decide) (by decide)
     exact ⟨rfl, N494⟩
   ·rw [vv]
    show GoV p e below s (ValQ (.int (1 : Int32)) n0) room_1.cells room_1.slots (T356.setTop (mkF m 37 (Sh15 q1 q2 q3 q4 q5 2 3 b356_e0) []))
    refine GoV.sg (mkF m 39 (Sh15 q1 q2 q3 q4 q5 2 3 b356_e0) [(.int 3)]) (fun t k => XS.iload X356.here hx rfl (hb hby at_37) rfl k) ?_
    refine GoV.sg (mkF m 40 (Sh15 q1 q2 q3 q4 q5 2 3 b356_e0) [(.int q2), (.int 3)]) (fun t k => XS.iloadN X356.here hx rfl (hb hby at_39) rfl k) ?_
    obtain ⟨_, T495, L495, X495, hQ495, st495⟩ := own_callS X356 hx hZ hown (y := Y1) (ww hw 1 rfl) (ww hw 2 rfl) (ww hw 3 rfl) (ww hw 4 rfl) (by decide) 0 (rm1_33 l Z a0 hw [] q2 cs T356.heap n0 f356_131 f356_133   ncs ) (by decide) (by decide) rfl (by decide) (by decide) (g := (mkF m 40 (Sh15 q1 q2 q3 q4 q5 2 3 b356_e0) [(.int q2), (.int 3)])) rfl (by rw [hml]; rfl) (argsL := [(.int (3 : Int32)), (.int q2)]) (rest := []) (lenOf pd_28II29Ljava2flang2fString3b rfl) rfl (by show 2 * 0 + _ ≤ _; exact Nat.le_of_eq rfl) (hb hby at_40)
    obtain ⟨b495_e0, b495_e1, k495_ke1, rfl, N495q, K495, p495_0, p495_1, p495_2, p495_3, hz_b495_e0, hz_b495_e1⟩ := hQ495
    have N495 := Fr.app N356 N495q
    have f495_216 := Nat.le_trans f356_131 K495.1
    have f495_218 := own_staK0 f356_133 K495
    have f495_219 := own_staK0 f356_134 K495
    have f495_220 := Nat.le_trans f356_135 K495.1
    have f495_221 := p356_0.keep K495
    have f495_222 := p356_1.keep K495 nin0
    have f495_223 := p356_2.keep K495 nin0
    have f495_224 := p356_3.keep K495 nin0
    refine GoV.sg (mkF m 43 (Sh15 q1 q2 q3 q4 q5 2 3 b356_e0) [(.ref b495_e0)]) (fun t k => st495 t k) ?_
    refine GoV.sg (mkF m 45 (Sh16 q1 q2 q3 q4 q5 2 3 b356_e0 b495_e0) []) (fun t k => XS.astore X495.here hx rfl (hb hby at_43) rfl rfl (l' := (Sh16 q1 q2 q3 q4 q5 2 3 b356_e0 b495_e0)) rfl k) ?_
    obtain ⟨T496, h496, X496, e496, E496, A496, D496, -, st496⟩ := newO X495 hx hZ hown (ww hw 35 rfl) (ww hw 36 rfl) (ww hw 37 rfl) rfl (g := (mkF m 45 (Sh16 q1 q2 q3 q4 q5 2 3 b356_e0 b495_e0) [])) rfl (hb hby at_45) (by decide) (by decide)
    obtain ⟨b496, g496⟩ : ∃ z, z = T495.heap.size := ⟨_, rfl⟩
    rw [← g496] at A496 D496 st496
    have g_b496 : n0 ≤ b496 := Nat.le_trans f495_216 (Nat.le_of_eq g496.symm)
    have ne_b356_e0_b496 : b356_e0 ≠ b496 := Nat.ne_of_lt (Nat.lt_of_lt_of_eq f495_221.lt g496.symm)
    have ne_b356_e1_b496 : b356_e1 ≠ b496 := Nat.ne_of_lt (Nat.lt_of_lt_of_eq f495_224.lt g496.symm)
    have f496_227 := f495_218.ext E496
    have f496_228 := f495_219.ext E496
    have f496_229 := Nat.le_trans f495_220 E496.1
    have f496_230 := f495_221.ext E496
    have f496_231 := f495_222.ext E496
    have f496_232 := f495_223.ext E496
    have f496_233 := f495_224.ext E496
    have F496name : Fld Z h496 b496 "com/example/relaystack/relaystack/CommandLine$Option" "name" "Ljava/lang/String;" .null := D496 (Or.inr (ww hw 48 rfl)) (ty := (.object "java/lang/String")) (by decide)
    have F496given : Fld Z h496 b496 "com/example/relaystack/relaystack/CommandLine$Option" "given" "Ljava/lang/String;" .null := D496 (Or.inr (ww hw 50 rfl)) (ty := (.object "java/lang/String")) (by decide)
    refine GoV.sg (mkF m 48 (Sh16 q1 q2 q3 q4 q5 2 3 b356_e0 b495_e0) [(.ref b496)]) (fun t k => st496 t k) ?_
    refine GoV.sg (mkF m 49 (Sh16 q1 q2 q3 q4 q5 2 3 b356_e0 b495_e0) [(.ref b496), (.ref b496)]) (fun t k => XS.dup X496.here hx rfl (hb hby at_48) rfl rfl k) ?_
    refine GoV.sg (mkF m 51 (Sh16 q1 q2 q3 q4 q5 2 3 b356_e0 b495_e0) [(.ref b495_e0), (.ref b496), (.ref b496)]) (fun t k => XS.aload X496.here hx rfl (hb hby at_49) rfl rfl k) ?_
    refine GoV.sg (mkF m 53 (Sh16 q1 q2 q3 q4 q5 2 3 b356_e0 b495_e0) [(.ref b356_e0), (.ref b495_e0), (.ref b496), (.ref b496)]) (fun t k => XS.aload X496.here hx rfl (hb hby at_51) rfl rfl k) ?_
    obtain ⟨_, _, ⟨T497, L497, k497, n497⟩, -, X497, ⟨Lc497, hQ497, l497, y497, z497⟩, st497⟩ := X496.specialBack hx (y := Y8) rfl hown (mvT hZ (ww hw 38 rfl)) (mvT hZ (ww hw 39 rfl)) (mvT hZ (ww hw 40 rfl)) (by decide) (backOf (W := 1) (rm8_8 l Z a0 hw [] b496 b495_e0 b356_e0  h496 n0  A496 F496given F496name g_b496   ) hZ (ww hw 40 rfl) (ww hw 37 rfl) (by decide) (by decide)) (g := (mkF m 53 (Sh16 q1 q2 q3 q4 q5 2 3 b356_e0 b495_e0) [(.ref b356_e0), (.ref b495_e0), (.ref b496), (.ref b496)])) rfl (by rw [hml]; rfl) (Steps.refl _) (a := b496) (argsL := [(.ref b495_e0), (.ref b356_e0)]) (rest := [(.ref b496)]) (lenOf pd_28Ljava2flang2fString3bLjava2flang2fString3b29V rfl) rfl (by show 2 * 0 + _ ≤ _; exact Nat.le_of_eq rfl) (hb hby at_53) (fun _ _ => ⟨rfl, e496, (by decide : 7 + 0 ≤ _), (by decide : 20 + 0 ≤ _)⟩)
    dsimp only [Pt.U, Pt.locs, Pt.cells, Pt.slots] at X497 l497 y497 z497 st497 hQ497
    subst l497 y497 z497
    obtain ⟨rfl, N497q, K497, p497_0, p497_1, p497_2⟩ := hQ497
    have N497 := Fr.app N495 N497q
    have f497_236 := own_staK f496_227 K497 (allS (own_nsE A496) all0)
    have f497_237 := own_staK f496_228 K497 (allS (own_nsE A496) all0)
    have f497_238 := Nat.le_trans f496_229 K497.1
    have f497_239 := f496_230.keep K497
    have f497_240 := f496_231.keep K497 (ninS ne_b356_e0_b496 nin0)
    have f497_241 := f496_232.keep K497 (ninS ne_b356_e0_b496 nin0)
    have f497_242 := f496_233.keep K497 (ninS ne_b356_e1_b496 nin0)
    refine GoV.sg (mkF m 56 (Sh16 q1 q2 q3 q4 q5 2 3 b356_e0 b495_e0) [(.ref b496)]) (fun t k => st497.trans k) ?_
    refine GoV.sg (mkF m 58 (Sh18 q1 q2 q3 q4 q5 2 3 b356_e0 b495_e0 b496) []) (fun t k => XS.astore X497.here hx rfl (hb hby at_56) rfl rfl (l' := (Sh18 q1 q2 q3 q4 q5 2 3 b356_e0 b495_e0 b496)) rfl k) ?_
    refine GoV.sg (mkF m 60 (Sh18 q1 q2 q3 q4 q5 2 3 b356_e0 b495_e0 b496) [(.ref b496)]) (fun t k => XS.aload X497.here hx rfl (hb hby at_58) rfl rfl k) ?_
    obtain ⟨cq498, kq498, q498a, q498b, q498c⟩ := isOf hZ rfl p497_0
    obtain ⟨_, _, ⟨T498, L498, k498, n498⟩, -, X498, ⟨Lc498, hQ498, l498, y498, z498⟩, st498⟩ := X497.virtualBack hx (y := Y10) (z := Y10) hown (mvT hZ (ww hw 51 rfl)) (mvT hZ (ww hw 52 rfl)) (notFace_of_selects (args := #[]) (mvT hZ (ww hw 54 rfl))) (mvT hZ (ww hw 54 rfl)) (mvT hZ (ww hw 53 rfl)) (by decide) (backOf (W := 0) (rm10_36 l Z a0 hw [] b496 b356_e0 b356_e1 k356_ke1 (lat8 (chA q1)) (lat8 (chB q1)) T497.heap n0  f497_239 p497_1 f497_241 f497_242    ) hZ (ww hw 55 rfl) (ww hw 37 rfl) (by decide) (by decide)) q498a q498c (g := (mkF m 60 (Sh18 q1 q2 q3 q4 q5 2 3 b356_e0 b495_e0 b496) [(.ref b496)])) rfl (by rw [hml]; rfl) (Steps.refl _) (argsL := []) (rest := []) (lenOf pd_2829Ljava2flang2fString3b rfl) rfl (by show 2 * 0 + _ ≤ _; exact Nat.le_of_eq rfl) (hb hby at_60) (fun _ _ => ⟨rfl, rfl, (by decide : 7 + 0 ≤ _), (by decide : 20 + 0 ≤ _)⟩)
    dsimp only [Pt.U, Pt.locs, Pt.cells, Pt.slots] at X498 l498 y498 z498 st498 hQ498
    subst l498 y498 z498
    obtain ⟨rfl, N498q, e498⟩ := hQ498
    have N498 := Fr.app N497 N498q
    refine GoV.sg (mkF m 63 (Sh18 q1 q2 q3 q4 q5 2 3 b356_e0 b495_e0 b496) [(.ref b356_e0)]) (fun t k => st498.trans k) ?_
    refine GoV.sg (mkF m 65 (Sh19 q1 q2 q3 q4 q5 2 3 b356_e0 b495_e0 b496 b356_e0) []) (fun t k => XS.astore X498.here hx rfl (hb hby at_63) rfl rfl (l' := (Sh19 q1 q2 q3 q4 q5 2 3 b356_e0 b495_e0 b496 b356_e0)) rfl k) ?_
    refine GoV.sg (mkF m 67 (Sh19 q1 q2 q3 q4 q5 2 3 b356_e0 b495_e0 b496 b356_e0) [(.ref b356_e0)]) (fun t k => XS.aload X498.here hx rfl (hb hby at_65) rfl rfl k) ?_
    refine GoV.sg (mkF m 69 (Sh19 q1 q2 q3 q4 q5 2 3 b356_e0 b495_e0 b496 b356_e0) [(.ref b356_e0), (.ref b356_e0)]) (fun t k => XS.aload X498.here hx rfl (hb hby at_67) rfl rfl k) ?_
    refine GoV.sg (mkF m 74 (Sh19 q1 q2 q3 q4 q5 2 3 b356_e0 b495_e0 b496 b356_e0) []) (fun t k => Jvm.RoadKit.acmp X498 hx rfl (cd := .eq) (x := (.ref b356_e0)) (y := (.ref b356_e0)) rfl rfl (pc0 := 69) (pc' := 74) (same := true) rfl (hb hby at_69) rfl (decide_eq_true rfl) (by decide) (by decide) k) ?_
    refine GoV.sg (mkF m 76 (Sh19 q1 q2 q3 q4 q5 2 3 b356_e0 b495_e0 b496 b356_e0) [(.ref b356_e0)]) (fun t k => XS.aload X498.here hx rfl (hb hby at_74) rfl rfl k) ?_
    obtain ⟨cq499, kq499, q499a, q499b, q499c⟩ := isOf hZ e498 f497_239
    obtain ⟨_, _, ⟨T499, L499, k499, n499⟩, -, X499, ⟨Lc499, hQ499, l499, y499, z499⟩, st499⟩ := X498.virtualBack hx (y := Y12) (z := Y12) hown (mvT hZ (ww hw 61 rfl)) (mvT hZ (ww hw 62 rfl)) (notFace_of_selects (args := #[]) (mvT hZ (ww hw 64 rfl))) (mvT hZ (ww hw 64 rfl)) (mvT hZ (ww hw 63 rfl)) (by decide) (backOf (W := 0) (rm12_37 l Z a0 hw [] b356_e0 b356_e1 k356_ke1 (lat8 (chA q1)) (lat8 (chB q1)) cs T497.heap n0  f497_239 f497_240 f497_241 f497_242 f497_236   ncs ) hZ (ww hw 65 rfl) (ww hw 7 rfl) (by decide) (by decide)) q499a q499c (g := (mkF m 76 (Sh19 q1 q2 q3 q4 q5 2 3 b356_e0 b495_e0 b496 b356_e0) [(.ref b356_e0)])) rfl (by rw [hml]; rfl) (Steps.refl _) (argsL := []) (rest := []) (lenOf pd_2829I rfl) rfl (by show 2 * 0 + _ ≤ _; exact Nat.le_of_eq rfl) (hb hby at_76) (fun _ _ => ⟨rfl, e498, (by decide : 7 + 0 ≤ _), (by decide : 20 + 0 ≤ _)⟩)
    dsimp only [Pt.U, Pt.locs, Pt.cells, Pt.slots] at X499 l499 y499 z499 st499 hQ499
    subst l499 y499 z499
    obtain ⟨rfl, N499q, e499⟩ := hQ499
    have N499 := Fr.app N498 N499q
    refine GoV.sg (mkF m 79 (Sh19 q1 q2 q3 q4 q5 2 3 b356_e0 b495_e0 b496 b356_e0) [(.int 2)]) (fun t k => st499.trans k) ?_
    refine GoV.sg (mkF m 81 (Sh19 q1 q2 q3 q4 q5 2 3 b356_e0 b495_e0 b496 b356_e0) [(.int 2), (.int 2)]) (fun t k => XS.iload X499.here hx rfl (hb hby at_79) rfl k) ?_
    refine GoV.sg (mkF m 86 (Sh19 q1 q2 q3 q4 q5 2 3 b356_e0 b495_e0 b496 b356_e0) []) (fun t k => XS.icmpYes X499.here hx rfl (pc0 := 81) (pc' := 86) rfl (hb hby at_81) rfl (by decide) (by decide) (by decide) k) ?_
    rcases ref_cases hvf with rfl | ⟨af, rfl⟩
    ·show GoV p e below s (ValQ (.int (1 : Int32)) n0) room_1.cells room_1.slots (T499.setTop (mkF m 86 (Sh19 q1 q2 q3 q4 q5 2 3 b356_e0 b495_e0 b496 b356_e0) []))
     refine GoV.sg (mkF m 88 (Sh19 q1 q2 q3 q4 q5 2 3 b356_e0 b495_e0 b496 b356_e0) [(.ref b356_e0)]) (fun t k => XS.aload X499.here hx rfl (hb hby at_86) rfl rfl k) ?_
     refine GoV.sg (mkF m 89 (Sh19 q1 q2 q3 q4 q5 2 3 b356_e0 b495_e0 b496 b356_e0) [(.int 0), (.ref b356_e0)]) (fun t k => XS.iconst X499.here hx rfl (hb hby at_88) k) ?_
     obtain ⟨cq500, kq500, q500a, q500b, q500c⟩ := isOf hZ e499 f497_239
     obtain ⟨_, _, ⟨T500, L500, k500, n500⟩, -, X500, ⟨Lc500, hQ500, l500, y500, z500⟩, st500⟩ := X499.virtualBack hx (y := Y14) (z := Y14) hown (mvT hZ (ww hw 71 rfl)) (mvT hZ (ww hw 72 rfl)) (notFace_of_selects (args := #[]) (mvT hZ (ww hw 74 rfl))) (mvT hZ (ww hw 74 rfl)) (mvT hZ (ww hw 73 rfl)) (by decide) (backOf (W := 0) (rm14_41 l Z a0 hw [] b356_e0 b356_e1 k356_ke1 (lat8 (chA q1)) (lat8 (chB q1)) cs T497.heap n0  f497_239 f497_240 f497_241 f497_242 f497_236 f497_237   ncs ) hZ (ww hw 75 rfl) (ww hw 7 rfl) (by decide) (by decide)) q500a q500c (g := (mkF m 89 (Sh19 q1 q2 q3 q4 q5 2 3 b356_e0 b495_e0 b496 b356_e0) [(.int 0), (.ref b356_e0)])) rfl (by rw [hml]; rfl) (Steps.refl _) (argsL := [(.int (0 : Int32))]) (rest := []) (lenOf pd_28I29C rfl) rfl (by show 2 * 0 + _ ≤ _; exact Nat.le_of_eq rfl) (hb hby at_89) (fun _ _ => ⟨rfl, e499, (by decide : 7 + 0 ≤ _), (by decide : 20 + 0 ≤ _)⟩)
     dsimp only [Pt.U, Pt.locs, Pt.cells, Pt.slots] at X500 l500 y500 z500 st500 hQ500
     subst l500 y500 z500
     obtain ⟨rfl, N500q, e500⟩ := hQ500
     have N500 := Fr.app N499 N500q
     refine GoV.sg (mkF m 92 (Sh19 q1 q2 q3 q4 q5 2 3 b356_e0 b495_e0 b496 b356_e0) [(.int (nar .char (nar .char ((lat8 (chA q1)) &&& (255 : Int32)).toUInt32.toUInt16.toUInt32.toInt32)))]) (fun t k => st500.trans k) ?_
     rw [show (nar .char (nar .char ((lat8 (chA q1)) &&& (255 : Int32)).toUInt32.toUInt16.toUInt32.toInt32)) = (chA q1) from (own_back _ (own_rA q1))]
     refine GoV.sg (mkF m 93 (Sh19 q1 q2 q3 q4 q5 2 3 b356_e0 b495_e0 b496 b356_e0) [(.int q1), (.int (chA q1))]) (fun t k => XS.iloadN X500.here hx rfl (hb hby at_92) rfl k) ?_
     refine GoV.sg (mkF m 96 (Sh19 q1 q2 q3 q4 q5 2 3 b356_e0 b495_e0 b496 b356_e0) [(.int 255), (.int q1), (.int (chA q1))]) (fun t k => XS.sipush X500.here hx rfl (hb hby at_93) k) ?_
     refine GoV.sg (mkF m 97 (Sh19 q1 q2 q3 q4 q5 2 3 b356_e0 b495_e0 b496 b356_e0) [(.int (q1 &&& (255 : Int32))), (.int (chA q1))]) (fun t k => XS.iand X500.here hx rfl (hb hby at_96) rfl k) ?_
     refine GoV.sg (mkF m 98 (Sh19 q1 q2 q3 q4 q5 2 3 b356_e0 b495_e0 b496 b356_e0) [(.int (q1 &&& (255 : Int32)).toUInt32.toUInt16.toUInt32.toInt32), (.int (chA q1))]) (fun t k => XS.i2c X500.here hx rfl (hb hby at_97) rfl k) ?_
     rw [own_cA q1]
     show GoV p e below s (ValQ (.int (1 : Int32)) n0) room_1.cells room_1.slots (T500.setTop (mkF m 98 (Sh19 q1 q2 q3 q4 q5 2 3 b356_e0 b495_e0 b496 b356_e0) [(.int (chA q1)), (.int (chA q1))]))
     refine GoV.sg (mkF m 103 (Sh19 q1 q2 q3 q4 q5 2 3 b356_e0 b495_e0 b496 b356_e0) []) (fun t k => XS.icmpYes X500.here hx rfl (pc0 := 98) (pc' := 103) rfl (hb hby at_98) rfl (teq rfl).1 (by decide) (by decide) k) ?_
     refine GoV.sg (mkF m 105 (Sh19 q1 q2 q3 q4 q5 2 3 b356_e0 b495_e0 b496 b356_e0) [(.int 2)]) (fun t k => XS.iload X500.here hx rfl (hb hby at_103) rfl k) ?_
     refine GoV.sg (mkF m 106 (Sh19 q1 q2 q3 q4 q5 2 3 b356_e0 b495_e0 b496 b356_e0) [(.int 2), (.int 2)]) (fun t k => XS.iconst X500.here hx rfl (hb hby at_105) k) ?_
     refine GoV.sg (mkF m 109 (Sh19 q1 q2 q3 q4 q5 2 3 b356_e0 b495_e0 b496 b356_e0) []) (fun t k => XS.icmpNo X500.here hx rfl (hb hby at_106) rfl (by decide) k) ?_
     refine GoV.sg (mkF m 111 (Sh19 q1 q2 q3 q4 q5 2 3 b356_e0 b495_e0 b496 b356_e0) [(.ref b356_e0)]) (fun t k => XS.aload X500.here hx rfl (hb hby at_109) rfl rfl k) ?_
     refine GoV.sg (mkF m 112 (Sh19 q1 q2 q3 q4 q5 2 3 b356_e0 b495_e0 b496 b356_e0) [(.int 1), (.ref b356_e0)]) (fun t k => XS.iconst X500.here hx rfl (hb hby at_111) k) ?_
     obtain ⟨cq501, kq501, q501a, q501b, q501c⟩ := isOf hZ e500 f497_239
     obtain ⟨_, _, ⟨T501, L501, k501, n501⟩, -, X501, ⟨Lc501, hQ501, l501, y501, z501⟩, st501⟩ := X500.virtualBack hx (y := Y14) (z := Y14) hown (mvT hZ (ww hw 71 rfl)) (mvT hZ (ww hw 72 rfl)) (notFace_of_selects (args := #[]) (mvT hZ (ww hw 74 rfl))) (mvT hZ (ww hw 74 rfl)) (mvT hZ (ww hw 73 rfl)) (by decide) (backOf (W := 0) (rm14_45 l Z a0 hw [] b356_e0 b356_e1 k356_ke1 (lat8 (chA q1)) (lat8 (chB q1)) cs T497.heap n0  f497_239 f497_240 f497_241 f497_242 f497_236 f497_237   ncs ) hZ (ww hw 75 rfl) (ww hw 7 rfl) (by decide) (by decide)) q501a q501c (g := (mkF m 112 (Sh19 q1 q2 q3 q4 q5 2 3 b356_e0 b495_e0 b496 b356_e0) [(.int 1), (.ref b356_e0)])) rfl (by rw [hml]; rfl) (Steps.refl _) (argsL := [(.int (1 : Int32))]) (rest := []) (lenOf pd_28I29C rfl) rfl (by show 2 * 0 + _ ≤ _; exact Nat.le_of_eq rfl) (hb hby at_112) (fun _ _ => ⟨rfl, e500, (by decide : 7 + 0 ≤ _), (by decide : 20 + 0 ≤ _)⟩)
     dsimp only [Pt.U, Pt.locs, Pt.cells, Pt.slots] at X501 l501 y501 z501 st501 hQ501
     subst l501 y501 z501
     obtain ⟨rfl, N501q, e501⟩ := hQ501
     have N501 := Fr.app N500 N501q
     refine GoV.sg (mkF m 115 (Sh19 q1 q2 q3 q4 q5 2 3 b356_e0 b495_e0 b496 b356_e0) [(.int (nar .char (nar .char ((lat8 (chB q1)) &&& (255 : Int32)).toUInt32.toUInt16.toUInt32.toInt32)))]) (fun t k => st501.trans k) ?_
     rw [show (nar .char (nar .char ((lat8 (chB q1)) &&& (255 : Int32)).toUInt32.toUInt16.toUInt32.toInt32)) = (chB q1) from (own_back _ (own_rB q1))]
     refine GoV.sg (mkF m 116 (Sh19 q1 q2 q3 q4 q5 2 3 b356_e0 b495_e0 b496 b356_e0) [(.int q1), (.int (chB q1))]) (fun t k => XS.iloadN X501.here hx rfl (hb hby at_115) rfl k) ?_
     refine GoV.sg (mkF m 118 (Sh19 q1 q2 q3 q4 q5 2 3 b356_e0 b495_e0 b496 b356_e0) [(.int 8), (.int q1), (.int (chB q1))]) (fun t k => XS.bipush X501.here hx rfl (hb hby at_116) k) ?_
     refine GoV.sg (mkF m 119 (Sh19 q1 q2 q3 q4 q5 2 3 b356_e0 b495_e0 b496 b356_e0) [(.int (q1.toUInt32 >>> ((8 : Int32) &&& 31).toUInt32).toInt32), (.int (chB q1))]) (fun t k => XS.iushr X501.here hx rfl (hb hby at_118) rfl k) ?_
     refine GoV.sg (mkF m 122 (Sh19 q1 q2 q3 q4 q5 2 3 b356_e0 b495_e0 b496 b356_e0) [(.int 255), (.int (q1.toUInt32 >>> ((8 : Int32) &&& 31).toUInt32).toInt32), (.int (chB q1))]) (fun t k => XS.sipush X501.here hx rfl (hb hby at_119) k) ?_
     refine GoV.sg (mkF m 123 (Sh19 q1 q2 q3 q4 q5 2 3 b356_e0 b495_e0 b496 b356_e0) [(.int ((q1.toUInt32 >>> ((8 : Int32) &&& 31).toUInt32).toInt32 &&& (255 : Int32))), (.int (chB q1))]) (fun t k => XS.iand X501.here hx rfl (hb hby at_122) rfl k) ?_
     refine GoV.sg (mkF m 124 (Sh19 q1 q2 q3 q4 q5 2 3 b356_e0 b495_e0 b496 b356_e0) [(.int ((q1.toUInt32 >>> ((8 : Int32) &&& 31).toUInt32).toInt32 &&& (255 : Int32)).toUInt32.toUInt16.toUInt32.toInt32), (.int (chB q1))]) (fun t k => XS.i2c X501.here hx rfl (hb hby at_123) rfl k) ?_
     rw [own_cB q1]
     show GoV p e below s (ValQ (.int (1 : Int32)) n0) room_1.cells room_1.slots (T501.setTop (mkF m 124 (Sh19 q1 q2 q3 q4 q5 2 3 b356_e0 b495_e0 b496 b356_e0) [(.int (chB q1)), (.int (chB q1))]))
     refine GoV.sg (mkF m 129 (Sh19 q1 q2 q3 q4 q5 2 3 b356_e0 b495_e0 b496 b356_e0) []) (fun t k => XS.icmpYes X501.here hx rfl (pc0 := 124) (pc' := 129) rfl (hb hby at_124) rfl (teq rfl).1 (by decide) (by decide) k) ?_
     refine GoV.sg (mkF m 131 (Sh19 q1 q2 q3 q4 q5 2 3 b356_e0 b495_e0 b496 b356_e0) [(.int 2)]) (fun t k => XS.iload X501.here hx rfl (hb hby at_129) rfl k) ?_
     refine GoV.sg (mkF m 132 (Sh19 q1 q2 q3 q4 q5 2 3 b356_e0 b495_e0 b496 b356_e0) [(.int 3), (.int 2)]) (fun t k => XS.iconst X501.here hx rfl (hb hby at_131) k) ?_
     refine GoV.sg (mkF m 155 (Sh19 q1 q2 q3 q4 q5 2 3 b356_e0 b495_e0 b496 b356_e0) []) (fun t k => XS.icmpYes X501.here hx rfl (pc0 := 132) (pc' := 155) rfl (hb hby at_132) rfl (by decide) (by decide) (by decide) k) ?_
     refine GoV.sg (mkF m 156 (Sh19 q1 q2 q3 q4 q5 2 3 b356_e0 b495_e0 b496 b356_e0) [(.int 1)]) (fun t k => XS.iconst X501.here hx rfl (hb hby at_155) k) ?_
     refine GoV.retN X501 hS0 (by rw [e501]; exact f497_238) hx (t := .boolean) Bd.returns (by simp) (hb hby at_156) Bd.notSynchronized ?_ (by decide) (by decide)
     exact ⟨rfl, N501⟩
    ·show GoV p e below s (ValQ (.int (1 : Int32)) n0) room_1.cells room_1.slots (T499.setTop (mkF m 86 (Sh19 q1 q2 q3 q4 q5 2 3 b356_e0 b495_e0 b496 b356_e0) []))
     refine GoV.sg (mkF m 88 (Sh19 q1 q2 q3 q4 q5 2 3 b356_e0 b495_e0 b496 b356_e0) [(.ref b356_e0)]) (fun t k => XS.aload X499.here hx rfl (hb hby at_86) rfl rfl k) ?_
     refine GoV.sg (mkF m 89 (Sh19 q1 q2 q3 q4 q5 2 3 b356_e0 b495_e0 b496 b356_e0) [(.int 0), (.ref b356_e0)]) (fun t k => XS.iconst X499.here hx rfl (hb hby at_88) k) ?_
     obtain ⟨cq502, kq502, q502a, q502b, q502c⟩ := isOf hZ e499 f497_239
     obtain ⟨_, _, ⟨T502, L502, k502, n502⟩, -, X502, ⟨Lc502, hQ502, l502, y502, z502⟩, st502⟩ := X499.virtualBack hx (y := Y14) (z := Y14) hown (mvT hZ (ww hw 71 rfl)) (mvT hZ (ww hw 72 rfl)) (notFace_of_selects (args := #[]) (mvT hZ (ww hw 74 rfl))) (mvT hZ (ww hw 74 rfl)) (mvT hZ (ww hw 73 rfl)) (by decide) (backOf (W := 0) (rm14_49 l Z a0 hw [] b356_e0 b356_e1 k356_ke1 (lat8 (chA q1)) (lat8 (chB q1)) cs af T497.heap n0  f497_239 f497_240 f497_241 f497_242 f497_236 f497_237   ncs ) hZ (ww hw 75 rfl) (ww hw 7 rfl) (by decide) (by decide)) q502a q502c (g := (mkF m 89 (Sh19 q1 q2 q3 q4 q5 2 3 b356_e0 b495_e0 b496 b356_e0) [(.int 0), (.ref b356_e0)])) rfl (by rw [hml]; rfl) (Steps.refl _) (argsL := [(.int (0 : Int32))]) (rest := []) (lenOf pd_28I29C rfl) rfl (by show 2 * 0 + _ ≤ _; exact Nat.le_of_eq rfl) (hb hby at_89) (fun _ _ => ⟨rfl, e499, (by decide : 7 + 0 ≤ _), (by decide : 20 + 0 ≤ _)⟩)
     dsimp only [Pt.U, Pt.locs, Pt.cells, Pt.slots] at X502 l502 y502 z502 st502 hQ502
     subst l502 y502 z502
     obtain ⟨rfl, N502q, e502⟩ := hQ502
     have N502 := Fr.app N499 N502q
     refine GoV.sg (mkF m 92 (Sh19 q1 q2 q3 q4 q5 2 3 b356_e0 b495_e0 b496 b356_e0) [(.int (nar .char (nar .char ((lat8 (chA q1)) &&& (255 : Int32)).toUInt32.toUInt16.toUInt32.toInt32)))]) (fun t k => st502.trans k) ?_
     rw [show (nar .char (nar .char ((lat8 (chA q1)) &&& (255 : Int32)).toUInt32.toUInt16.toUInt32.toInt32)) = (chA q1) from (own_back _ (own_rA q1))]
     refine GoV.sg (mkF m 93 (Sh19 q1 q2 q3 q4 q5 2 3 b356_e0 b495_e0 b496 b356_e0) [(.int q1), (.int (chA q1))]) (fun t k => XS.iloadN X502.here hx rfl (hb hby at_92) rfl k) ?_
     refine GoV.sg (mkF m 96 (Sh19 q1 q2 q3 q4 q5 2 3 b356_e0 b495_e0 b496 b356_e0) [(.int 255), (.int q1), (.int (chA q1))]) (fun t k => XS.sipush X502.here hx rfl (hb hby at_93) k) ?_
     refine GoV.sg (mkF m 97 (Sh19 q1 q2 q3 q4 q5 2 3 b356_e0 b495_e0 b496 b356_e0) [(.int (q1 &&& (255 : Int32))), (.int (chA q1))]) (fun t k => XS.iand X502.here hx rfl (hb hby at_96) rfl k) ?_
     refine GoV.sg (mkF m 98 (Sh19 q1 q2 q3 q4 q5 2 3 b356_e0 b495_e0 b496 b356_e0) [(.int (q1 &&& (255 : Int32)).toUInt32.toUInt16.toUInt32.toInt32), (.int (chA q1))]) (fun t k => XS.i2c X502.here hx rfl (hb hby at_97) rfl k) ?_
     rw [own_cA q1]
     show GoV p e below s (ValQ (.int (1 : Int32)) n0) room_1.cells room_1.slots (T502.setTop (mkF m 98 (Sh19 q1 q2 q3 q4 q5 2 3 b356_e0 b495_e0 b496 b356_e0) [(.int (chA q1)), (.int (chA q1))]))
     refine GoV.sg (mkF m 103 (Sh19 q1 q2 q3 q4 q5 2 3 b356_e0 b495_e0 b496 b356_e0) []) (fun t k => XS.icmpYes X502.here hx rfl (pc0 := 98) (pc' := 103) rfl (hb hby at_98) rfl (teq rfl).1 (by decide) (by decide) k) ?_
     refine GoV.sg (mkF m 105 (Sh19 q1 q2 q3 q4 q5 2 3 b356_e0 b495_e0 b496 b356_e0) [(.int 2)]) (fun t k => XS.iload X502.here hx rfl (hb hby at_103) rfl k) ?_
     refine GoV.sg (mkF m 106 (Sh19 q1 q2 q3 q4 q5 2 3 b356_e0 b495_e0 b496 b356_e0) [(.int 2), (.int 2)]) (fun t k => XS.iconst X502.here hx rfl (hb hby at_105) k) ?_
     refine GoV.sg (mkF m 109 (Sh19 q1 q2 q3 q4 q5 2 3 b356_e0 b495_e0 b496 b356_e0) []) (fun t k => XS.icmpNo X502.here hx rfl (hb hby at_106) rfl (by decide) k) ?_
     refine GoV.sg (mkF m 111 (Sh19 q1 q2 q3 q4 q5 2 3 b356_e0 b495_e0 b496 b356_e0) [(.ref b356_e0)]) (fun t k => XS.aload X502.here hx rfl (hb hby at_109) rfl rfl k) ?_
     refine GoV.sg (mkF m 112 (Sh19 q1 q2 q3 q4 q5 2 3 b356_e0 b495_e0 b496 b356_e0) [(.int 1), (.ref b356_e0)]) (fun t k => XS.iconst X502.here hx rfl (hb hby at_111) k) ?_
     obtain ⟨cq503, kq503, q503a, q503b, q503c⟩ := isOf hZ e502 f497_239
     obtain ⟨_, _, ⟨T503, L503, k503, n503⟩, -, X503, ⟨Lc503, hQ503, l503, y503, z503⟩, st503⟩ := X502.virtualBack hx (y := Y14) (z := Y14) hown (mvT hZ (ww hw 71 rfl)) (mvT hZ (ww hw 72 rfl)) (notFace_of_selects (args := #[]) (mvT hZ (ww hw 74 rfl))) (mvT hZ (ww hw 74 rfl)) (mvT hZ (ww hw 73 rfl)) (by decide) (backOf (W := 0) (rm14_53 l Z a0 hw [] b356_e0 b356_e1 k356_ke1 (lat8 (chA q1)) (lat8 (chB q1)) cs af T497.heap n0  f497_239 f497_240 f497_241 f497_242 f497_236 f497_237   ncs ) hZ (ww hw 75 rfl) (ww hw 7 rfl) (by decide) (by decide)) q503a q503c (g := (mkF m 112 (Sh19 q1 q2 q3 q4 q5 2 3 b356_e0 b495_e0 b496 b356_e0) [(.int 1), (.ref b356_e0)])) rfl (by rw [hml]; rfl) (Steps.refl _) (argsL := [(.int (1 : Int32))]) (rest := []) (lenOf pd_28I29C rfl) rfl (by show 2 * 0 + _ ≤ _; exact Nat.le_of_eq rfl) (hb hby at_112) (fun _ _ => ⟨rfl, e502, (by decide : 7 + 0 ≤ _), (by decide : 20 + 0 ≤ _)⟩)
     dsimp only [Pt.U, Pt.locs, Pt.cells, Pt.slots] at X503 l503 y503 z503 st503 hQ503
     subst l503 y503 z503
     obtain ⟨rfl, N503q, e503⟩ := hQ503
     have N503 := Fr.app N502 N503q
     refine GoV.sg (mkF m 115 (Sh19 q1 q2 q3 q4 q5 2 3 b356_e0 b495_e0 b496 b356_e0) [(.int (nar .char (nar .char ((lat8 (chB q1)) &&& (255 : Int32)).toUInt32.toUInt16.toUInt32.toInt32)))]) (fun t k => st503.trans k) ?_
     rw [show (nar .char (nar .char ((lat8 (chB q1)) &&& (255 : Int32)).toUInt32.toUInt16.toUInt32.toInt32)) = (chB q1) from (own_back _ (own_rB q1))]
     refine GoV.sg (mkF m 116 (Sh19 q1 q2 q3 q4 q5 2 3 b356_e0 b495_e0 b496 b356_e0) [(.int q1), (.int (chB q1))]) (fun t k => XS.iloadN X503.here hx rfl (hb hby at_115) rfl k) ?_
     refine GoV.sg (mkF m 118 (Sh19 q1 q2 q3 q4 q5 2 3 b356_e0 b495_e0 b496 b356_e0) [(.int 8), (.int q1), (.int (chB q1))]) (fun t k => XS.bipush X503.here hx rfl (hb hby at_116) k) ?_
     refine GoV.sg (mkF m 119 (Sh19 q1 q2 q3 q4 q5 2 3 b356_e0 b495_e0 b496 b356_e0) [(.int (q1.toUInt32 >>> ((8 : Int32) &&& 31).toUInt32).toInt32), (.int (chB q1))]) (fun t k => XS.iushr X503.here hx rfl (hb hby at_118) rfl k) ?_
     refine GoV.sg (mkF m 122 (Sh19 q1 q2 q3 q4 q5 2 3 b356_e0 b495_e0 b496 b356_e0) [(.int 255), (.int (q1.toUInt32 >>> ((8 : Int32) &&& 31).toUInt32).toInt32), (.int (chB q1))]) (fun t k => XS.sipush X503.here hx rfl (hb hby at_119) k) ?_
     refine GoV.sg (mkF m 123 (Sh19 q1 q2 q3 q4 q5 2 3 b356_e0 b495_e0 b496 b356_e0) [(.int ((q1.toUInt32 >>> ((8 : Int32) &&& 31).toUInt32).toInt32 &&& (255 : Int32))), (.int (chB q1))]) (fun t k => XS.iand X503.here hx rfl (hb hby at_122) rfl k) ?_
     refine GoV.sg (mkF m 124 (Sh19 q1 q2 q3 q4 q5 2 3 b356_e0 b495_e0 b496 b356_e0) [(.int ((q1.toUInt32 >>> ((8 : Int32) &&& 31).toUInt32).toInt32 &&& (255 : Int32)).toUInt32.toUInt16.toUInt32.toInt32), (.int (chB q1))]) (fun t k => XS.i2c X503.here hx rfl (hb hby at_123) rfl k) ?_
     rw [own_cB q1]
     show GoV p e below s (ValQ (.int (1 : Int32)) n0) room_1.cells room_1.slots (T503.setTop (mkF m 124 (Sh19 q1 q2 q3 q4 q5 2 3 b356_e0 b495_e0 b496 b356_e0) [(.int (chB q1)), (.int (chB q1))]))
     refine GoV.sg (mkF m 129 (Sh19 q1 q2 q3 q4 q5 2 3 b356_e0 b495_e0 b496 b356_e0) []) (fun t k => XS.icmpYes X503.here hx rfl (pc0 := 124) (pc' := 129) rfl (hb hby at_124) rfl (teq rfl).1 (by decide) (by decide) k) ?_
     refine GoV.sg (mkF m 131 (Sh19 q1 q2 q3 q4 q5 2 3 b356_e0 b495_e0 b496 b356_e0) [(.int 2)]) (fun t k => XS.iload X503.here hx rfl (hb hby at_129) rfl k) ?_
     refine GoV.sg (mkF m 132 (Sh19 q1 q2 q3 q4 q5 2 3 b356_e0 b495_e0 b496 b356_e0) [(.int 3), (.int 2)]) (fun t k => XS.iconst X503.here hx rfl (hb hby at_131) k) ?_
     refine GoV.sg (mkF m 155 (Sh19 q1 q2 q3 q4 q5 2 3 b356_e0 b495_e0 b496 b356_e0) []) (fun t k => XS.icmpYes X503.here hx rfl (pc0 := 132) (pc' := 155) rfl (hb hby at_132) rfl (by decide) (by decide) (by decide) k) ?_
     refine GoV.sg (mkF m 156 (Sh19 q1 q2 q3 q4 q5 2 3 b356_e0 b495_e0 b496 b356_e0) [(.int 1)]) (fun t k => XS.iconst X503.here hx rfl (hb hby at_155) k) ?_
     refine GoV.retN X503 hS0 (by rw [e503]; exact f497_238) hx (t := .boolean) Bd.returns (by simp) (hb hby at_156) Bd.notSynchronized ?_ (by decide) (by decide)
     exact ⟨rfl, N503⟩
  ·refine GoV.sg (mkF m 33 (Sh15 q1 q2 q3 q4 q5 2 ((q4 &&& (2147483647 : Int32)) % (4 : Int32)) b356_e0) []) (fun t k => XS.ifNo X356.here hx rfl (hb hby at_30) rfl ((if0 _ _).trans (feq c357).1) k) ?_
   refine GoV.sg (mkF m 34 (Sh15 q1 q2 q3 q4 q5 2 ((q4 &&& (2147483647 : Int32)) % (4 : Int32)) b356_e0) [.null]) (fun t k => XS.aconstNull X356.here hx rfl (hb hby at_33) k) ?_
   refine GoV.sg (mkF m 43 (Sh15 q1 q2 q3 q4 q5 2 ((q4 &&& (2147483647 : Int32)) % (4 : Int32)) b356_e0) [.null]) (fun t k => XS.goto X356.here hx rfl (pc0 := 34) (pc' := 43) rfl (hb hby at_34) (by decide) (by decide) k) ?_
   refine GoV.sg (mkF m 45 (Sh22 q1 q2 q3 q4 q5 2 ((q4 &&& (2147483647 : Int32)) % (4 : Int32)) b356_e0) []) (fun t k => XS.astore X356.here hx rfl (hb hby at_43) rfl rfl (l' := (Sh22 q1 q2 q3 q4 q5 2 ((q4 &&& (2147483647 : Int32)) % (4 : Int32)) b356_e0)) rfl k) ?_
   obtain ⟨T504, h504, X504, e504, E504, A504, D504, -, st504⟩ := newO X356 hx hZ hown (ww hw 35 rfl) (ww hw 36 rfl) (ww hw 37 rfl) rfl (g := (mkF m 45 (Sh22 q1 q2 q3 q4 q5 2 ((q4 &&& (2147483647 : Int32)) % (4 : Int32)) b356_e0) [])) rfl (hb hby at_45) (by decide) (by decide)
   obtain ⟨b504, g504⟩ : ∃ z, z = T356.heap.size := ⟨_, rfl⟩
   rw [← g504] at A504 D504 st504
   have g_b504 : n0 ≤ b504 := Nat.le_trans f356_131 (Nat.le_of_eq g504.symm)
   have ne_b356_e0_b504 : b356_e0 ≠ b504 := Nat.ne_of_lt (Nat.lt_of_lt_of_eq p356_0.lt g504.symm)
   have ne_b356_e1_b504 : b356_e1 ≠ b504 := Nat.ne_of_lt (Nat.lt_of_lt_of_eq p356_3.lt g504.symm)
   have f504_245 := f356_133.ext E504
   have f504_246 := f356_134.ext E504
   have f504_247 := Nat.le_trans f356_135 E504.1
   have f504_248 := p356_0.ext E504
   have f504_249 := p356_1.ext E504
   have f504_250 := p356_2.ext E504
   have f504_251 := p356_3.ext E504
   have F504name : Fld Z h504 b504 "com/example/relaystack/relaystack/CommandLine$Option" "name" "Ljava/lang/String;" .null := D504 (Or.inr (ww hw 48 rfl)) (ty := (.object "java/lang/String")) (by decide)
   have F504given : Fld Z h504 b504 "com/example/relaystack/relaystack/CommandLine$Option" "given" "Ljava/lang/String;" .null := D504 (Or.inr (ww hw 50 rfl)) (ty := (.object "java/lang/String")) (by decide)
   refine GoV.sg (mkF m 48 (Sh22 q1 q2 q3 q4 q5 2 ((q4 &&& (2147483647 : Int32)) % (4 : Int32)) b356_e0) [(.ref b504)]) (fun t k => st504 t k) ?_
   refine GoV.sg (mkF m 49 (Sh22 q1 q2 q3 q4 q5 2 ((q4 &&& (2147483647 : Int32)) % (4 : Int32)) b356_e0) [(.ref b504), (.ref b504)]) (fun t k => XS.dup X504.here hx rfl (hb hby at_48) rfl rfl k) ?_
   refine GoV.sg (mkF m 51 (Sh22 q1 q2 q3 q4 q5 2 ((q4 &&& (2147483647 : Int32)) % (4 : Int32)) b356_e0) [.null, (.ref b504), (.ref b504)]) (fun t k => XS.aload X504.here hx rfl (hb hby at_49) rfl rfl k) ?_
   refine GoV.sg (mkF m 53 (Sh22 q1 q2 q3 q4 q5 2 ((q4 &&& (2147483647 : Int32)) % (4 : Int32)) b356_e0) [(.ref b356_e0), .null, (.ref b504), (.ref b504)]) (fun t k => XS.aload X504.here hx rfl (hb hby at_51) rfl rfl k) ?_
   obtain ⟨_, _, ⟨T508, L508, k508, n508⟩, -, X508, ⟨Lc508, hQ508, l508, y508, z508⟩, st508⟩ := X504.specialBack hx (y := Y8) rfl hown (mvT hZ (ww hw 38 rfl)) (mvT hZ (ww hw 39 rfl)) (mvT hZ (ww hw 40 rfl)) (by decide) (backOf (W := 1) (rm8_34 l Z a0 hw [] b504 b356_e0  h504 n0  A504 F504given F504name g_b504   ) hZ (ww hw 40 rfl) (ww hw 37 rfl) (by decide) (by decide)) (g := (mkF m 53 (Sh22 q1 q2 q3 q4 q5 2 ((q4 &&& (2147483647 : Int32)) % (4 : Int32)) b356_e0) [(.ref b356_e0), .null, (.ref b504), (.ref b504)])) rfl (by rw [hml]; rfl) (Steps.refl _) (a := b504) (argsL := [.null, (.ref b356_e0)]) (rest := [(.ref b504)]) (lenOf pd_28Ljava2flang2fString3bLjava2flang2fString3b29V rfl) rfl (by show 2 * 0 + _ ≤ _; exact Nat.le_of_eq rfl) (hb hby at_53) (fun _ _ => ⟨rfl, e504, (by decide : 4 + 0 ≤ _), (by decide : 10 + 0 ≤ _)⟩)
   dsimp only [Pt.U, Pt.locs, Pt.cells, Pt.slots] at X508 l508 y508 z508 st508 hQ508
   subst l508 y508 z508
   obtain ⟨rfl, N508q, K508, p508_0, p508_1, p508_2⟩ := hQ508
   have N508 := Fr.app N356 N508q
   have f508_254 := own_staK f504_245 K508 (allS (own_nsE A504) all0)
   have f508_255 := own_staK f504_246 K508 (allS (own_nsE A504) all0)
   have f508_256 := Nat.le_trans f504_247 K508.1
   have f508_257 := f504_248.keep K508
   have f508_258 := f504_249.keep K508 (ninS ne_b356_e0_b504 nin0)
   have f508_259 := f504_250.keep K508 (ninS ne_b356_e0_b504 nin0)
   have f508_260 := f504_251.keep K508 (ninS ne_b356_e1_b504 nin0)
   refine GoV.sg (mkF m 56 (Sh22 q1 q2 q3 q4 q5 2 ((q4 &&& (2147483647 : Int32)) % (4 : Int32)) b356_e0) [(.ref b504)]) (fun t k => st508.trans k) ?_
   refine GoV.sg (mkF m 58 (Sh24 q1 q2 q3 q4 q5 2 ((q4 &&& (2147483647 : Int32)) % (4 : Int32)) b356_e0 b504) []) (fun t k => XS.astore X508.here hx rfl (hb hby at_56) rfl rfl (l' := (Sh24 q1 q2 q3 q4 q5 2 ((q4 &&& (2147483647 : Int32)) % (4 : Int32)) b356_e0 b504)) rfl k) ?_
   refine GoV.sg (mkF m 60 (Sh24 q1 q2 q3 q4 q5 2 ((q4 &&& (2147483647 : Int32)) % (4 : Int32)) b356_e0 b504) [(.ref b504)]) (fun t k => XS.aload X508.here hx rfl (hb hby at_58) rfl rfl k) ?_
   obtain ⟨cq513, kq513, q513a, q513b, q513c⟩ := isOf hZ rfl p508_0
   obtain ⟨_, _, ⟨T513, L513, k513, n513⟩, -, X513, ⟨Lc513, hQ513, l513, y513, z513⟩, st513⟩ := X508.virtualBack hx (y := Y10) (z := Y10) hown (mvT hZ (ww hw 51 rfl)) (mvT hZ (ww hw 52 rfl)) (notFace_of_selects (args := #[]) (mvT hZ (ww hw 54 rfl))) (mvT hZ (ww hw 54 rfl)) (mvT hZ (ww hw 53 rfl)) (by decide) (backOf (W := 0) (rm10_36 l Z a0 hw [] b504 b356_e0 b356_e1 k356_ke1 (lat8 (chA q1)) (lat8 (chB q1)) T508.heap n0  f508_257 p508_1 f508_259 f508_260    ) hZ (ww hw 55 rfl) (ww hw 37 rfl) (by decide) (by decide)) q513a q513c (g := (mkF m 60 (Sh24 q1 q2 q3 q4 q5 2 ((q4 &&& (2147483647 : Int32)) % (4 : Int32)) b356_e0 b504) [(.ref b504)])) rfl (by rw [hml]; rfl) (Steps.refl _) (argsL := []) (rest := []) (lenOf pd_2829Ljava2flang2fString3b rfl) rfl (by show 2 * 0 + _ ≤ _; exact Nat.le_of_eq rfl) (hb hby at_60) (fun _ _ => ⟨rfl, rfl, (by decide : 4 + 0 ≤ _), (by decide : 10 + 0 ≤ _)⟩)
   dsimp only [Pt.U, Pt.locs, Pt.cells, Pt.slots] at X513 l513 y513 z513 st513 hQ513
   subst l513 y513 z513
   obtain ⟨rfl, N513q, e513⟩ := hQ513
   have N513 := Fr.app N508 N513q
   refine GoV.sg (mkF m 63 (Sh24 q1 q2 q3 q4 q5 2 ((q4 &&& (2147483647 : Int32)) % (4 : Int32)) b356_e0 b504) [(.ref b356_e0)]) (fun t k => st513.trans k) ?_
   refine GoV.sg (mkF m 65 (Sh25 q1 q2 q3 q4 q5 2 ((q4 &&& (2147483647 : Int32)) % (4 : Int32)) b356_e0 b504 b356_e0) []) (fun t k => XS.astore X513.here hx rfl (hb hby at_63) rfl rfl (l' := (Sh25 q1 q2 q3 q4 q5 2 ((q4 &&& (2147483647 : Int32)) % (4 : Int32)) b356_e0 b504 b356_e0)) rfl k) ?_
   refine GoV.sg (mkF m 67 (Sh25 q1 q2 q3 q4 q5 2 ((q4 &&& (2147483647 : Int32)) % (4 : Int32)) b356_e0 b504 b356_e0) [(.ref b356_e0)]) (fun t k => XS.aload X513.here hx rfl (hb hby at_65) rfl rfl k) ?_
   refine GoV.sg (mkF m 69 (Sh25 q1 q2 q3 q4 q5 2 ((q4 &&& (2147483647 : Int32)) % (4 : Int32)) b356_e0 b504 b356_e0) [(.ref b356_e0), (.ref b356_e0)]) (fun t k => XS.aload X513.here hx rfl (hb hby at_67) rfl rfl k) ?_
   refine GoV.sg (mkF m 74 (Sh25 q1 q2 q3 q4 q5 2 ((q4 &&& (2147483647 : Int32)) % (4 : Int32)) b356_e0 b504 b356_e0) []) (fun t k => Jvm.RoadKit.acmp X513 hx rfl (cd := .eq) (x := (.ref b356_e0)) (y := (.ref b356_e0)) rfl rfl (pc0 := 69) (pc' := 74) (same := true) rfl (hb hby at_69) rfl (decide_eq_true rfl) (by decide) (by decide) k) ?_
   refine GoV.sg (mkF m 76 (Sh25 q1 q2 q3 q4 q5 2 ((q4 &&& (2147483647 : Int32)) % (4 : Int32)) b356_e0 b504 b356_e0) [(.ref b356_e0)]) (fun t k => XS.aload X513.here hx rfl (hb hby at_74) rfl rfl k) ?_
   obtain ⟨cq514, kq514, q514a, q514b, q514c⟩ := isOf hZ e513 f508_257
   obtain ⟨_, _, ⟨T514, L514, k514, n514⟩, -, X514, ⟨Lc514, hQ514, l514, y514, z514⟩, st514⟩ := X513.virtualBack hx (y := Y12) (z := Y12) hown (mvT hZ (ww hw 61 rfl)) (mvT hZ (ww hw 62 rfl)) (notFace_of_selects (args := #[]) (mvT hZ (ww hw 64 rfl))) (mvT hZ (ww hw 64 rfl)) (mvT hZ (ww hw 63 rfl)) (by decide) (backOf (W := 0) (rm12_37 l Z a0 hw [] b356_e0 b356_e1 k356_ke1 (lat8 (chA q1)) (lat8 (chB q1)) cs T508.heap n0  f508_257 f508_258 f508_259 f508_260 f508_254   ncs ) hZ (ww hw 65 rfl) (ww hw 7 rfl) (by decide) (by decide)) q514a q514c (g := (mkF m 76 (Sh25 q1 q2 q3 q4 q5 2 ((q4 &&& (2147483647 : Int32)) % (4 : Int32)) b356_e0 b504 b356_e0) [(.ref b356_e0)])) rfl (by rw [hml]; rfl) (Steps.refl _) (argsL := []) (rest := []) (lenOf pd_2829I rfl) rfl (by show 2 * 0 + _ ≤ _; exact Nat.le_of_eq rfl) (hb hby at_76) (fun _ _ => ⟨rfl, e513, (by decide : 4 + 0 ≤ _), (by decide : 10 + 0 ≤ _)⟩)
   dsimp only [Pt.U, Pt.locs, Pt.cells, Pt.slots] at X514 l514 y514 z514 st514 hQ514
   subst l514 y514 z514
   obtain ⟨rfl, N514q, e514⟩ := hQ514
   have N514 := Fr.app N513 N514q
   refine GoV.sg (mkF m 79 (Sh25 q1 q2 q3 q4 q5 2 ((q4 &&& (2147483647 : Int32)) % (4 : Int32)) b356_e0 b504 b356_e0) [(.int 2)]) (fun t k => st514.trans k) ?_
   refine GoV.sg (mkF m 81 (Sh25 q1 q2 q3 q4 q5 2 ((q4 &&& (2147483647 : Int32)) % (4 : Int32)) b356_e0 b504 b356_e0) [(.int 2), (.int 2)]) (fun t k => XS.iload X514.here hx rfl (hb hby at_79) rfl k) ?_
   refine GoV.sg (mkF m 86 (Sh25 q1 q2 q3 q4 q5 2 ((q4 &&& (2147483647 : Int32)) % (4 : Int32)) b356_e0 b504 b356_e0) []) (fun t k => XS.icmpYes X514.here hx rfl (pc0 := 81) (pc' := 86) rfl (hb hby at_81) rfl (by decide) (by decide) (by decide) k) ?_
   rcases ref_cases hvf with rfl | ⟨af, rfl⟩
   ·show GoV p e below s (ValQ (.int (1 : Int32)) n0) room_1.cells room_1.slots (T514.setTop (mkF m 86 (Sh25 q1 q2 q3 q4 q5 2 ((q4 &&& (2147483647 : Int32)) % (4 : Int32)) b356_e0 b504 b356_e0) []))
    refine GoV.sg (mkF m 88 (Sh25 q1 q2 q3 q4 q5 2 ((q4 &&& (2147483647 : Int32)) % (4 : Int32)) b356_e0 b504 b356_e0) [(.ref b356_e0)]) (fun t k => XS.aload X514.here hx rfl (hb hby at_86) rfl rfl k) ?_
    refine GoV.sg (mkF m 89 (Sh25 q1 q2 q3 q4 q5 2 ((q4 &&& (2147483647 : Int32)) % (4 : Int32)) b356_e0 b504 b356_e0) [(.int 0), (.ref b356_e0)]) (fun t k => XS.iconst X514.here hx rfl (hb hby at_88) k) ?_
    obtain ⟨cq515, kq515, q515a, q515b, q515c⟩ := isOf hZ e514 f508_257
    obtain ⟨_, _, ⟨T515, L515, k515, n515⟩, -, X515, ⟨Lc515, hQ515, l515, y515, z515⟩, st515⟩ := X514.virtualBack hx (y := Y14) (z := Y14) hown (mvT hZ (ww hw 71 rfl)) (mvT hZ (ww hw 72 rfl)) (notFace_of_selects (args := #[]) (mvT hZ (ww hw 74 rfl))) (mvT hZ (ww hw 74 rfl)) (mvT hZ (ww hw 73 rfl)) (by decide) (backOf (W := 0) (rm14_41 l Z a0 hw [] b356_e0 b356_e1 k356_ke1 (lat8 (chA q1)) (lat8 (chB q1)) cs T508.heap n0  f508_257 f508_258 f508_259 f508_260 f508_254 f508_255   ncs ) hZ (ww hw 75 rfl) (ww hw 7 rfl) (by decide) (by decide)) q515a q515c (g := (mkF m 89 (Sh25 q1 q2 q3 q4 q5 2 ((q4 &&& (2147483647 : Int32)) % (4 : Int32)) b356_e0 b504 b356_e0) [(.int 0), (.ref b356_e0)])) rfl (by rw [hml]; rfl) (Steps.refl _) (argsL := [(.int (0 : Int32))]) (rest := []) (lenOf pd_28I29C rfl) rfl (by show 2 * 0 + _ ≤ _; exact Nat.le_of_eq rfl) (hb hby at_89) (fun _ _ => ⟨rfl, e514, (by decide : 4 + 0 ≤ _), (by decide : 10 + 0 ≤ _)⟩)
    dsimp only [Pt.U, Pt.locs, Pt.cells, Pt.slots] at X515 l515 y515 z515 st515 hQ515
    subst l515 y515 z515
    obtain ⟨rfl, N515q, e515⟩ := hQ515
    have N515 := Fr.app N514 N515q
    refine GoV.sg (mkF m 92 (Sh25 q1 q2 q3 q4 q5 2 ((q4 &&& (2147483647 : Int32)) % (4 : Int32)) b356_e0 b504 b356_e0) [(.int (nar .char (nar .char ((lat8 (chA q1)) &&& (255 : Int32)).toUInt32.toUInt16.toUInt32.toInt32)))]) (fun t k => st515.trans k) ?_
    rw [show (nar .char (nar .char ((lat8 (chA q1)) &&& (255 : Int32)).toUInt32.toUInt16.toUInt32.toInt32)) = (chA q1) from (own_back _ (own_rA q1))]
    refine GoV.sg (mkF m 93 (Sh25 q1 q2 q3 q4 q5 2 ((q4 &&& (2147483647 : Int32)) % (4 : Int32)) b356_e0 b504 b356_e0) [(.int q1), (.int (chA q1))]) (fun t k => XS.iloadN X515.here hx rfl (hb hby at_92) rfl k) ?_
    refine GoV.sg (mkF m 96 (Sh25 q1 q2 q3 q4 q5 2 ((q4 &&& (2147483647 : Int32)) % (4 : Int32)) b356_e0 b504 b356_e0) [(.int 255), (.int q1), (.int (chA q1))]) (fun t k => XS.sipush X515.here hx rfl (hb hby at_93) k) ?_
    refine GoV.sg (mkF m 97 (Sh25 q1 q2 q3 q4 q5 2 ((q4 &&& (2147483647 : Int32)) % (4 : Int32)) b356_e0 b504 b356_e0) [(.int (q1 &&& (255 : Int32))), (.int (chA q1))]) (fun t k => XS.iand X515.here hx rfl (hb hby at_96) rfl k) ?_
    refine GoV.sg (mkF m 98 (Sh25 q1 q2 q3 q4 q5 2 ((q4 &&& (2147483647 : Int32)) % (4 : Int32)) b356_e0 b504 b356_e0) [(.int (q1 &&& (255 : Int32)).toUInt32.toUInt16.toUInt32.toInt32), (.int (chA q1))]) (fun t k => XS.i2c X515.here hx rfl (hb hby at_97) rfl k) ?_
    rw [own_cA q1]
    show GoV p e below s (ValQ (.int (1 : Int32)) n0) room_1.cells room_1.slots (T515.setTop (mkF m 98 (Sh25 q1 q2 q3 q4 q5 2 ((q4 &&& (2147483647 : Int32)) % (4 : Int32)) b356_e0 b504 b356_e0) [(.int (chA q1)), (.int (chA q1))]))
    refine GoV.sg (mkF m 103 (Sh25 q1 q2 q3 q4 q5 2 ((q4 &&& (2147483647 : Int32)) % (4 : Int32)) b356_e0 b504 b356_e0) []) (fun t k => XS.icmpYes X515.here hx rfl (pc0 := 98) (pc' := 103) rfl (hb hby at_98) rfl (teq rfl).1 (by decide) (by decide) k) ?_
    refine GoV.sg (mkF m 105 (Sh25 q1 q2 q3 q4 q5 2 ((q4 &&& (2147483647 : Int32)) % (4 : Int32)) b356_e0 b504 b356_e0) [(.int 2)]) (fun t k => XS.iload X515.here hx rfl (hb hby at_103) rfl k) ?_
    refine GoV.sg (mkF m 106 (Sh25 q1 q2 q3 q4 q5 2 ((q4 &&& (2147483647 : Int32)) % (4 : Int32)) b356_e0 b504 b356_e0) [(.int 2), (.int 2)]) (fun t k => XS.iconst X515.here hx rfl (hb hby at_105) k) ?_
    refine GoV.sg (mkF m 109 (Sh25 q1 q2 q3 q4 q5 2 ((q4 &&& (2147483647 : Int32)) % (4 : Int32)) b356_e0 b504 b356_e0) []) (fun t k => XS.icmpNo X515.here hx rfl (hb hby at_106) rfl (by decide) k) ?_
    refine GoV.sg (mkF m 111 (Sh25 q1 q2 q3 q4 q5 2 ((q4 &&& (2147483647 : Int32)) % (4 : Int32)) b356_e0 b504 b356_e0) [(.ref b356_e0)]) (fun t k => XS.aload X515.here hx rfl (hb hby at_109) rfl rfl k) ?_
    refine GoV.sg (mkF m 112 (Sh25 q1 q2 q3 q4 q5 2 ((q4 &&& (2147483647 : Int32)) % (4 : Int32)) b356_e0 b504 b356_e0) [(.int 1), (.ref b356_e0)]) (fun t k => XS.iconst X515.here hx rfl (hb hby at_111) k) ?_
    obtain ⟨cq516, kq516, q516a, q516b, q516c⟩ := isOf hZ e515 f508_257
    obtain ⟨_, _, ⟨T516, L516, k516, n516⟩, -, X516, ⟨Lc516, hQ516, l516, y516, z516⟩, st516⟩ := X515.virtualBack hx (y := Y14) (z := Y14) hown (mvT hZ (ww hw 71 rfl)) (mvT hZ (ww hw 72 rfl)) (notFace_of_selects (args := #[]) (mvT hZ (ww hw 74 rfl))) (mvT hZ (ww hw 74 rfl)) (mvT hZ (ww hw 73 rfl)) (by decide) (backOf (W := 0) (rm14_45 l Z a0 hw [] b356_e0 b356_e1 k356_ke1 (lat8 (chA q1)) (lat8 (chB q1)) cs T508.heap n0  f508_257 f508_258 f508_259 f508_260 f508_254 f508_255   ncs ) hZ (ww hw 75 rfl) (ww hw 7 rfl) (by decide) (by decide)) q516a q516c (g := (mkF m 112 (Sh25 q1 q2 q3 q4 q5 2 ((q4 &&& (2147483647 : Int32)) % (4 : Int32)) b356_e0 b504 b356_e0) [(.int 1), (.ref b356_e0)])) rfl (by rw [hml]; rfl) (Steps.refl _) (argsL := [(.int (1 : Int32))]) (rest := []) (lenOf pd_28I29C rfl) rfl (by show 2 * 0 + _ ≤ _; exact Nat.le_of_eq rfl) (hb hby at_112) (fun _ _ => ⟨rfl, e515, (by decide : 4 + 0 ≤ _), (by decide : 10 + 0 ≤ _)⟩)
    dsimp only [Pt.U, Pt.locs, Pt.cells, Pt.slots] at X516 l516 y516 z516 st516 hQ516
    subst l516 y516 z516
    obtain ⟨rfl, N516q, e516⟩ := hQ516
    have N516 := Fr.app N515 N516q
    refine GoV.sg (mkF m 115 (Sh25 q1 q2 q3 q4 q5 2 ((q4 &&& (2147483647 : Int32)) % (4 : Int32)) b356_e0 b504 b356_e0) [(.int (nar .char (nar .char ((lat8 (chB q1)) &&& (255 : Int32)).toUInt32.toUInt16.toUInt32.toInt32)))]) (fun t k => st516.trans k) ?_
    rw [show (nar .char (nar .char ((lat8 (chB q1)) &&& (255 : Int32)).toUInt32.toUInt16.toUInt32.toInt32)) = (chB q1) from (own_back _ (own_rB q1))]
    refine GoV.sg (mkF m 116 (Sh25 q1 q2 q3 q4 q5 2 ((q4 &&& (2147483647 : Int32)) % (4 : Int32)) b356_e0 b504 b356_e0) [(.int q1), (.int (chB q1))]) (fun t k => XS.iloadN X516.here hx rfl (hb hby at_115) rfl k) ?_
    refine GoV.sg (mkF m 118 (Sh25 q1 q2 q3 q4 q5 2 ((q4 &&& (2147483647 : Int32)) % (4 : Int32)) b356_e0 b504 b356_e0) [(.int 8), (.int q1), (.int (chB q1))]) (fun t k => XS.bipush X516.here hx rfl (hb hby at_116) k) ?_
    refine GoV.sg (mkF m 119 (Sh25 q1 q2 q3 q4 q5 2 ((q4 &&& (2147483647 : Int32)) % (4 : Int32)) b356_e0 b504 b356_e0) [(.int (q1.toUInt32 >>> ((8 : Int32) &&& 31).toUInt32).toInt32), (.int (chB q1))]) (fun t k => XS.iushr X516.here hx rfl (hb hby at_118) rfl k) ?_
    refine GoV.sg (mkF m 122 (Sh25 q1 q2 q3 q4 q5 2 ((q4 &&& (2147483647 : Int32)) % (4 : Int32)) b356_e0 b504 b356_e0) [(.int 255), (.int (q1.toUInt32 >>> ((8 : Int32) &&& 31).toUInt32).toInt32), (.int (chB q1))]) (fun t k => XS.sipush X516.here hx rfl (hb hby at_119) k) ?_
    refine GoV.sg (mkF m 123 (Sh25 q1 q2 q3 q4 q5 2 ((q4 &&& (2147483647 : Int32)) % (4 : Int32)) b356_e0 b504 b356_e0) [(.int ((q1.toUInt32 >>> ((8 : Int32) &&& 31).toUInt32).toInt32 &&& (255 : Int32))), (.int (chB q1))]) (fun t k => XS.iand X516.here hx rfl (hb hby at_122) rfl k) ?_
    refine GoV.sg (mkF m 124 (Sh25 q1 q2 q3 q4 q5 2 ((q4 &&& (2147483647 : Int32)) % (4 : Int32)) b356_e0 b504 b356_e0) [(.int ((q1.toUInt32 >>> ((8 : Int32) &&& 31).toUInt32).toInt32 &&& (255 : Int32)).toUInt32.toUInt16.toUInt32.toInt32), (.int (chB q1))]) (fun t k => XS.i2c X516.here hx rfl (hb hby at_123) rfl k) ?_
    rw [own_cB q1]
    show GoV p e below s (ValQ (.int (1 : Int32)) n0) room_1.cells room_1.slots (T516.setTop (mkF m 124 (Sh25 q1 q2 q3 q4 q5 2 ((q4 &&& (2147483647 : Int32)) % (4 : Int32)) b356_e0 b504 b356_e0) [(.int (chB q1)), (.int (chB q1))]))
    refine GoV.sg (mkF m 129 (Sh25 q1 q2 q3 q4 q5 2 ((q4 &&& (2147483647 : Int32)) % (4 : Int32)) b356_e0 b504 b356_e0) []) (fun t k => XS.icmpYes X516.here hx rfl (pc0 := 124) (pc' := 129) rfl (hb hby at_124) rfl (teq rfl).1 (by decide) (by decide) k) ?_
    refine GoV.sg (mkF m 131 (Sh25 q1 q2 q3 q4 q5 2 ((q4 &&& (2147483647 : Int32)) % (4 : Int32)) b356_e0 b504 b356_e0) [(.int 2)]) (fun t k => XS.iload X516.here hx rfl (hb hby at_129) rfl k) ?_
    refine GoV.sg (mkF m 132 (Sh25 q1 q2 q3 q4 q5 2 ((q4 &&& (2147483647 : Int32)) % (4 : Int32)) b356_e0 b504 b356_e0) [(.int 3), (.int 2)]) (fun t k => XS.iconst X516.here hx rfl (hb hby at_131) k) ?_
    refine GoV.sg (mkF m 155 (Sh25 q1 q2 q3 q4 q5 2 ((q4 &&& (2147483647 : Int32)) % (4 : Int32)) b356_e0 b504 b356_e0) []) (fun t k => XS.icmpYes X516.here hx rfl (pc0 := 132) (pc' := 155) rfl (hb hby at_132) rfl (by decide) (by decide) (by decide) k) ?_
    refine GoV.sg (mkF m 156 (Sh25 q1 q2 q3 q4 q5 2 ((q4 &&& (2147483647 : Int32)) % (4 : Int32)) b356_e0 b504 b356_e0) [(.int 1)]) (fun t k => XS.iconst X516.here hx rfl (hb hby at_155) k) ?_
    refine GoV.retN X516 hS0 (by rw [e516]; exact f508_256) hx (t := .boolean) Bd.returns (by simp) (hb hby at_156) Bd.notSynchronized ?_ (by decide) (by decide)
    exact ⟨rfl, N516⟩
   ·show GoV p e below s (ValQ (.int (1 : Int32)) n0) room_1.cells room_1.slots (T514.setTop (mkF m 86 (Sh25 q1 q2 q3 q4 q5 2 ((q4 &&& (2147483647 : Int32)) % (4 : Int32)) b356_e0 b504 b356_e0) []))
    refine GoV.sg (mkF m 88 (Sh25 q1 q2 q3 q4 q5 2 ((q4 &&& (2147483647 : Int32)) % (4 : Int32)) b356_e0 b504 b356_e0) [(.ref b356_e0)]) (fun t k => XS.aload X514.here hx rfl (hb hby at_86) rfl rfl k) ?_
    refine GoV.sg (mkF m 89 (Sh25 q1 q2 q3 q4 q5 2 ((q4 &&& (2147483647 : Int32)) % (4 : Int32)) b356_e0 b504 b356_e0) [(.int 0), (.ref b356_e0)]) (fun t k => XS.iconst X514.here hx rfl (hb hby at_88) k) ?_
    obtain ⟨cq517, kq517, q517a, q517b, q517c⟩ := isOf hZ e514 f508_257
    obtain ⟨_, _, ⟨T517, L517, k517, n517⟩, -, X517, ⟨Lc517, hQ517, l517, y517, z517⟩, st517⟩ := X514.virtualBack hx (y := Y14) (z := Y14) hown (mvT hZ (ww hw 71 rfl)) (mvT hZ (ww hw 72 rfl)) (notFace_of_selects (args := #[]) (mvT hZ (ww hw 74 rfl))) (mvT hZ (ww hw 74 rfl)) (mvT hZ (ww hw 73 rfl)) (by decide) (backOf (W := 0) (rm14_49 l Z a0 hw [] b356_e0 b356_e1 k356_ke1 (lat8 (chA q1)) (lat8 (chB q1)) cs af T508.heap n0  f508_257 f508_258 f508_259 f508_260 f508_254 f508_255   ncs ) hZ (ww hw 75 rfl) (ww hw 7 rfl) (by decide) (by decide)) q517a q517c (g := (mkF m 89 (Sh25 q1 q2 q3 q4 q5 2 ((q4 &&& (2147483647 : Int32)) % (4 : Int32)) b356_e0 b504 b356_e0) [(.int 0), (.ref b356_e0)])) rfl (by rw [hml]; rfl) (Steps.refl _) (argsL := [(.int (0 : Int32))]) (rest := []) (lenOf pd_28I29C rfl) rfl (by show 2 * 0 + _ ≤ _; exact Nat.le_of_eq rfl) (hb hby at_89) (fun _ _ => ⟨rfl, e514, (by decide : 4 + 0 ≤ _), (by decide : 10 + 0 ≤ _)⟩)
    dsimp only [Pt.U, Pt.locs, Pt.cells, Pt.slots] at X517 l517 y517 z517 st517 hQ517
    subst l517 y517 z517
    obtain ⟨rfl, N517q, e517⟩ := hQ517
    have N517 := Fr.app N514 N517q
    refine GoV.sg (mkF m 92 (Sh25 q1 q2 q3 q4 q5 2 ((q4 &&& (2147483647 : Int32)) % (4 : Int32)) b356_e0 b504 b356_e0) [(.int (nar .char (nar .char ((lat8 (chA q1)) &&& (255 : Int32)).toUInt32.toUInt16.toUInt32.toInt32)))]) (fun t k => st517.trans k) ?_
    rw [show (nar .char (nar .char ((lat8 (chA q1)) &&& (255 : Int32)).toUInt32.toUInt16.toUInt32.toInt32)) = (chA q1) from (own_back _ (own_rA q1))]
    refine GoV.sg (mkF m 93 (Sh25 q1 q2 q3 q4 q5 2 ((q4 &&& (2147483647 : Int32)) % (4 : Int32)) b356_e0 b504 b356_e0) [(.int q1), (.int (chA q1))]) (fun t k => XS.iloadN X517.here hx rfl (hb hby at_92) rfl k) ?_
    refine GoV.sg (mkF m 96 (Sh25 q1 q2 q3 q4 q5 2 ((q4 &&& (2147483647 : Int32)) % (4 : Int32)) b356_e0 b504 b356_e0) [(.int 255), (.int q1), (.int (chA q1))]) (fun t k => XS.sipush X517.here hx rfl (hb hby at_93) k) ?_
    refine GoV.sg (mkF m 97 (Sh25 q1 q2 q3 q4 q5 2 ((q4 &&& (2147483647 : Int32)) % (4 : Int32)) b356_e0 b504 b356_e0) [(.int (q1 &&& (255 : Int32))), (.int (chA q1))]) (fun t k => XS.iand X517.here hx rfl (hb hby at_96) rfl k) ?_
    refine GoV.sg (mkF m 98 (Sh25 q1 q2 q3 q4 q5 2 ((q4 &&& (2147483647 : Int32)) % (4 : Int32)) b356_e0 b504 b356_e0) [(.int (q1 &&& (255 : Int32)).toUInt32.toUInt16.toUInt32.toInt32), (.int (chA q1))]) (fun t k => XS.i2c X517.here hx rfl (hb hby at_97) rfl k) ?_
    rw [own_cA q1]
    show GoV p e below s (ValQ (.int (1 : Int32)) n0) room_1.cells room_1.slots (T517.setTop (mkF m 98 (Sh25 q1 q2 q3 q4 q5 2 ((q4 &&& (2147483647 : Int32)) % (4 : Int32)) b356_e0 b504 b356_e0) [(.int (chA q1)), (.int (chA q1))]))
    refine GoV.sg (mkF m 103 (Sh25 q1 q2 q3 q4 q5 2 ((q4 &&& (2147483647 : Int32)) % (4 : Int32)) b356_e0 b504 b356_e0) []) (fun t k => XS.icmpYes X517.here hx rfl (pc0 := 98) (pc' := 103) rfl (hb hby at_98) rfl (teq rfl).1 (by decide) (by decide) k) ?_
    refine GoV.sg (mkF m 105 (Sh25 q1 q2 q3 q4 q5 2 ((q4 &&& (2147483647 : Int32)) % (4 : Int32)) b356_e0 b504 b356_e0) [(.int 2)]) (fun t k => XS.iload X517.here hx rfl (hb hby at_103) rfl k) ?_
    refine GoV.sg (mkF m 106 (Sh25 q1 q2 q3 q4 q5 2 ((q4 &&& (2147483647 : Int32)) % (4 : Int32)) b356_e0 b504 b356_e0) [(.int 2), (.int 2)]) (fun t k => XS.iconst X517.here hx rfl (hb hby at_105) k) ?_
    refine GoV.sg (mkF m 109 (Sh25 q1 q2 q3 q4 q5 2 ((q4 &&& (2147483647 : Int32)) % (4 : Int32)) b356_e0 b504 b356_e0) []) (fun t k => XS.icmpNo X517.here hx rfl (hb hby at_106) rfl (by decide) k) ?_
    refine GoV.sg (mkF m 111 (Sh25 q1 q2 q3 q4 q5 2 ((q4 &&& (2147483647 : Int32)) % (4 : Int32)) b356_e0 b504 b356_e0) [(.ref b356_e0)]) (fun t k => XS.aload X517.here hx rfl (hb hby at_109) rfl rfl k) ?_
    refine GoV.sg (mkF m 112 (Sh25 q1 q2 q3 q4 q5 2 ((q4 &&& (2147483647 : Int32)) % (4 : Int32)) b356_e0 b504 b356_e0) [(.int 1), (.ref b356_e0)]) (fun t k => XS.iconst X517.here hx rfl (hb hby at_111) k) ?_
    obtain ⟨cq518, kq518, q518a, q518b, q518c⟩ := isOf hZ e517 f508_257
    obtain ⟨_, _, ⟨T518, L518, k518, n518⟩, -, X518, ⟨Lc518, hQ518, l518, y518, z518⟩, st518⟩ := X517.virtualBack hx (y := Y14) (z := Y14) hown (mvT hZ (ww hw 71 rfl)) (mvT hZ (ww hw 72 rfl)) (notFace_of_selects (args := #[]) (mvT hZ (ww hw 74 rfl))) (mvT hZ (ww hw 74 rfl)) (mvT hZ (ww hw 73 rfl)) (by decide) (backOf (W := 0) (rm14_53 l Z a0 hw [] b356_e0 b356_e1 k356_ke1 (lat8 (chA q1)) (lat8 (chB q1)) cs af T508.heap n0  f508_257 f508_258 f508_259 f508_260 f508_254 f508_255   ncs ) hZ (ww hw 75 rfl) (ww hw 7 rfl) (by decide) (by decide)) q518a q518c (g := (mkF m 112 (Sh25 q1 q2 q3 q4 q5 2 ((q4 &&& (2147483647 : Int32)) % (4 : Int32)) b356_e0 b504 b356_e0) [(.int 1), (.ref b356_e0)])) rfl (by rw [hml]; rfl) (Steps.refl _) (argsL := [(.int (1 : Int32))]) (rest := []) (lenOf pd_28I29C rfl) rfl (by show 2 * 0 + _ ≤ _; exact Nat.le_of_eq rfl) (hb hby at_112) (fun _ _ => ⟨rfl, e517, (by decide : 4 + 0 ≤ _), (by decide : 10 + 0 ≤ _)⟩)
    dsimp only [Pt.U, Pt.locs, Pt.cells, Pt.slots] at X518 l518 y518 z518 st518 hQ518
    subst l518 y518 z518
    obtain ⟨rfl, N518q, e518⟩ := hQ518
    have N518 := Fr.app N517 N518q
    refine GoV.sg (mkF m 115 (Sh25 q1 q2 q3 q4 q5 2 ((q4 &&& (2147483647 : Int32)) % (4 : Int32)) b356_e0 b504 b356_e0) [(.int (nar .char (nar .char ((lat8 (chB q1)) &&& (255 : Int32)).toUInt32.toUInt16.toUInt32.toInt32)))]) (fun t k => st518.trans k) ?_
    rw [show (nar .char (nar .char ((lat8 (chB q1)) &&& (255 : Int32)).toUInt32.toUInt16.toUInt32.toInt32)) = (chB q1) from (own_back _ (own_rB q1))]
    refine GoV.sg (mkF m 116 (Sh25 q1 q2 q3 q4 q5 2 ((q4 &&& (2147483647 : Int32)) % (4 : Int32)) b356_e0 b504 b356_e0) [(.int q1), (.int (chB q1))]) (fun t k => XS.iloadN X518.here hx rfl (hb hby at_115) rfl k) ?_
    refine GoV.sg (mkF m 118 (Sh25 q1 q2 q3 q4 q5 2 ((q4 &&& (2147483647 : Int32)) % (4 : Int32)) b356_e0 b504 b356_e0) [(.int 8), (.int q1), (.int (chB q1))]) (fun t k => XS.bipush X518.here hx rfl (hb hby at_116) k) ?_
    refine GoV.sg (mkF m 119 (Sh25 q1 q2 q3 q4 q5 2 ((q4 &&& (2147483647 : Int32)) % (4 : Int32)) b356_e0 b504 b356_e0) [(.int (q1.toUInt32 >>> ((8 : Int32) &&& 31).toUInt32).toInt32), (.int (chB q1))]) (fun t k => XS.iushr X518.here hx rfl (hb hby at_118) rfl k) ?_
    refine GoV.sg (mkF m 122 (Sh25 q1 q2 q3 q4 q5 2 ((q4 &&& (2147483647 : Int32)) % (4 : Int32)) b356_e0 b504 b356_e0) [(.int 255), (.int (q1.toUInt32 >>> ((8 : Int32) &&& 31).toUInt32).toInt32), (.int (chB q1))]) (fun t k => XS.sipush X518.here hx rfl (hb hby at_119) k) ?_
    refine GoV.sg (mkF m 123 (Sh25 q1 q2 q3 q4 q5 2 ((q4 &&& (2147483647 : Int32)) % (4 : Int32)) b356_e0 b504 b356_e0) [(.int ((q1.toUInt32 >>> ((8 : Int32) &&& 31).toUInt32).toInt32 &&& (255 : Int32))), (.int (chB q1))]) (fun t k => XS.iand X518.here hx rfl (hb hby at_122) rfl k) ?_
    refine GoV.sg (mkF m 124 (Sh25 q1 q2 q3 q4 q5 2 ((q4 &&& (2147483647 : Int32)) % (4 : Int32)) b356_e0 b504 b356_e0) [(.int ((q1.toUInt32 >>> ((8 : Int32) &&& 31).toUInt32).toInt32 &&& (255 : Int32)).toUInt32.toUInt16.toUInt32.toInt32), (.int (chB q1))]) (fun t k => XS.i2c X518.here hx rfl (hb hby at_123) rfl k) ?_
    rw [own_cB q1]
    show GoV p e below s (ValQ (.int (1 : Int32)) n0) room_1.cells room_1.slots (T518.setTop (mkF m 124 (Sh25 q1 q2 q3 q4 q5 2 ((q4 &&& (2147483647 : Int32)) % (4 : Int32)) b356_e0 b504 b356_e0) [(.int (chB q1)), (.int (chB q1))]))
    refine GoV.sg (mkF m 129 (Sh25 q1 q2 q3 q4 q5 2 ((q4 &&& (2147483647 : Int32)) % (4 : Int32)) b356_e0 b504 b356_e0) []) (fun t k => XS.icmpYes X518.here hx rfl (pc0 := 124) (pc' := 129) rfl (hb hby at_124) rfl (teq rfl).1 (by decide) (by decide) k) ?_
    refine GoV.sg (mkF m 131 (Sh25 q1 q2 q3 q4 q5 2 ((q4 &&& (2147483647 : Int32)) % (4 : Int32)) b356_e0 b504 b356_e0) [(.int 2)]) (fun t k => XS.iload X518.here hx rfl (hb hby at_129) rfl k) ?_
    refine GoV.sg (mkF m 132 (Sh25 q1 q2 q3 q4 q5 2 ((q4 &&& (2147483647 : Int32)) % (4 : Int32)) b356_e0 b504 b356_e0) [(.int 3), (.int 2)]) (fun t k => XS.iconst X518.here hx rfl (hb hby at_131) k) ?_
    refine GoV.sg (mkF m 155 (Sh25 q1 q2 q3 q4 q5 2 ((q4 &&& (2147483647 : Int32)) % (4 : Int32)) b356_e0 b504 b356_e0) []) (fun t k => XS.icmpYes X518.here hx rfl (pc0 := 132) (pc' := 155) rfl (hb hby at_132) rfl (by decide) (by decide) (by decide) k) ?_
    refine GoV.sg (mkF m 156 (Sh25 q1 q2 q3 q4 q5 2 ((q4 &&& (2147483647 : Int32)) % (4 : Int32)) b356_e0 b504 b356_e0) [(.int 1)]) (fun t k => XS.iconst X518.here hx rfl (hb hby at_155) k) ?_
    refine GoV.retN X518 hS0 (by rw [e518]; exact f508_256) hx (t := .boolean) Bd.returns (by simp) (hb hby at_156) Bd.notSynchronized ?_ (by decide) (by decide)
    exact ⟨rfl, N518⟩
 ·rw [vv]
  show GoV p e below s (ValQ (.int (1 : Int32)) n0) room_1.cells room_1.slots (s₁.setTop (mkF m 10 (Sh6 q1 q2 q3 q4 q5 3) []))
  refine GoV.sg (mkF m 11 (Sh6 q1 q2 q3 q4 q5 3) [(.int q4)]) (fun t k => XS.iloadN X0.here hx rfl (hb hby at_10) rfl k) ?_
  refine GoV.sg (mkF m 13 (Sh6 q1 q2 q3 q4 q5 3) [(.int 2147483647), (.int q4)]) (fun t k => X0.ldcInt hx hown (mvT hZ (ww hw 0 rfl)) (g := (mkF m 11 (Sh6 q1 q2 q3 q4 q5 3) [(.int q4)])) rfl (hb hby at_11) t k) ?_
  refine GoV.sg (mkF m 14 (Sh6 q1 q2 q3 q4 q5 3) [(.int (q4 &&& (2147483647 : Int32)))]) (fun t k => XS.iand X0.here hx rfl (hb hby at_13) rfl k) ?_
  refine GoV.sg (mkF m 15 (Sh6 q1 q2 q3 q4 q5 3) [(.int 4), (.int (q4 &&& (2147483647 : Int32)))]) (fun t k => XS.iconst X0.here hx rfl (hb hby at_14) k) ?_
  refine GoV.sg (mkF m 16 (Sh6 q1 q2 q3 q4 q5 3) [(.int ((q4 &&& (2147483647 : Int32)) % (4 : Int32)))]) (fun t k => iremM X0 hx rfl (hb hby at_15) rfl (by decide) k) ?_
  refine GoV.sg (mkF m 18 (Sh7 q1 q2 q3 q4 q5 3 ((q4 &&& (2147483647 : Int32)) % (4 : Int32))) []) (fun t k => XS.istore X0.here hx rfl (hb hby at_16) rfl (l' := (Sh7 q1 q2 q3 q4 q5 3 ((q4 &&& (2147483647 : Int32)) % (4 : Int32)))) rfl k) ?_
  refine GoV.sg (mkF m 20 (Sh7 q1 q2 q3 q4 q5 3 ((q4 &&& (2147483647 : Int32)) % (4 : Int32))) [(.int 3)]) (fun t k => XS.iload X0.here hx rfl (hb hby at_18) rfl k) ?_
  refine GoV.sg (mkF m 21 (Sh7 q1 q2 q3 q4 q5 3 ((q4 &&& (2147483647 : Int32)) % (4 : Int32))) [(.int q1), (.int 3)]) (fun t k => XS.iloadN X0.here hx rfl (hb hby at_20) rfl k) ?_
  obtain ⟨_, T519, L519, X519, hQ519, st519⟩ := own_callS X0 hx hZ hown (y := Y1) (ww hw 1 rfl) (ww hw 2 rfl) (ww hw 3 rfl) (ww hw 4 rfl) (by decide) 0 (rm1_33 l Z a0 hw [] q1 cs h0 n0 Z0 PC   ncs ) (by decide) (by decide) e0 (by decide) (by decide) (g := (mkF m 21 (Sh7 q1 q2 q3 q4 q5 3 ((q4 &&& (2147483647 : Int32)) % (4 : Int32))) [(.int q1), (.int 3)])) rfl (by rw [hml]; rfl) (argsL := [(.int (3 : Int32)), (.int q1)]) (rest := []) (lenOf pd_28II29Ljava2flang2fString3b rfl) rfl (by show 2 * 0 + _ ≤ _; exact Nat.le_of_eq rfl) (hb hby at_21)
  obtain ⟨b519_e0, b519_e1, k519_ke1, rfl, N519q, K519, p519_0, p519_1, p519_2, p519_3, hz_b519_e0, hz_b519_e1⟩ := hQ519
  have N519 := Fr.app N0 N519q
  have f519_261 := Nat.le_trans Z0 K519.1
  have f519_262 := O0.keep K519 all0
  have f519_263 := own_staK0 PC K519
  have f519_264 := own_staK0 PF K519
  have f519_265 := Nat.le_trans (Nat.zero_le _) K519.1
  refine GoV.sg (mkF m 24 (Sh7 q1 q2 q3 q4 q5 3 ((q4 &&& (2147483647 : Int32)) % (4 : Int32))) [(.ref b519_e0)]) (fun t k => st519 t k) ?_
  refine GoV.sg (mkF m 26 (Sh15 q1 q2 q3 q4 q5 3 ((q4 &&& (2147483647 : Int32)) % (4 : Int32)) b519_e0) []) (fun t k => XS.astore X519.here hx rfl (hb hby at_24) rfl rfl (l' := (Sh15 q1 q2 q3 q4 q5 3 ((q4 &&& (2147483647 : Int32)) % (4 : Int32)) b519_e0)) rfl k) ?_
  refine GoV.sg (mkF m 28 (Sh15 q1 q2 q3 q4 q5 3 ((q4 &&& (2147483647 : Int32)) % (4 : Int32)) b519_e0) [(.int q5)]) (fun t k => XS.iload X519.here hx rfl (hb hby at_26) rfl k) ?_
  refine GoV.sg (mkF m 29 (Sh15 q1 q2 q3 q4 q5 3 ((q4 &&& (2147483647 : Int32)) % (4 : Int32)) b519_e0) [(.int 1), (.int q5)]) (fun t k => XS.iconst X519.here hx rfl (hb hby at_28) k) ?_
  refine GoV.sg (mkF m 30 (Sh15 q1 q2 q3 q4 q5 3 ((q4 &&& (2147483647 : Int32)) % (4 : Int32)) b519_e0) [(.int (q5 &&& (1 : Int32)))]) (fun t k => XS.iand X519.here hx rfl (hb hby at_29) rfl k) ?_
  by_cases c520 : (q5 &&& (1 : Int32)) = (0 : Int32)
  ·refine GoV.sg (mkF m 37 (Sh15 q1 q2 q3 q4 q5 3 ((q4 &&& (2147483647 : Int32)) % (4 : Int32)) b519_e0) []) (fun t k => XS.ifYes X519.here hx rfl (pc0 := 30) (pc' := 37) rfl (hb hby at_30) rfl ((if0 _ _).trans (teq c520).1) (by decide) (by decide) k) ?_
   rcases own_mod4 q4 with vv | vv | vv | vv
   ·rw [vv]
    show GoV p e below s (ValQ (.int (1 : Int32)) n0) room_1.cells room_1.slots (T519.setTop (mkF m 37 (Sh15 q1 q2 q3 q4 q5 3 0 b519_e0) []))
    refine GoV.sg (mkF m 39 (Sh15 q1 q2 q3 q4 q5 3 0 b519_e0) [(.int 0)]) (fun t k => XS.iload X519.here hx rfl (hb hby at_37) rfl k) ?_
    refine GoV.sg (mkF m 40 (Sh15 q1 q2 q3 q4 q5 3 0 b519_e0) [(.int q2), (.int 0)]) (fun t k => XS.iloadN X519.here hx rfl (hb hby at_39) rfl k) ?_
    obtain ⟨_, T521, L521, X521, hS521, hZ521, hown521, hQ521, st521⟩ := own_callU X519 hx hZ hS0 f519_265 hown (y := Y1) (ww hw 1 rfl) (ww hw 2 rfl) (ww hw 3 rfl) (ww hw 4 rfl) (by decide) 0 (PV := fun vm => IB Z vm []) (rmE0 l Z a0 hw [] q2  T519.heap n0 f519_261      f519_262 hc_7 hcw) (fun vm1 q => own_ibW I0 q.interned_eq) (by decide) (by decide) rfl (by decide) (by decide) (g := (mkF m 40 (Sh15 q1 q2 q3 q4 q5 3 0 b519_e0) [(.int q2), (.int 0)])) rfl (by rw [hml]; rfl) (argsL := [(.int (0 : Int32)), (.int q2)]) (rest := []) (lenOf pd_28II29Ljava2flang2fString3b rfl) rfl (by show 2 * 0 + _ ≤ _; exact Nat.le_of_eq rfl) (hb hby at_40)
    obtain ⟨b521_e0, rfl, N521q, K521⟩ := hQ521
    have N521 := Fr.app N519 N521q
    have f521_266 := Nat.le_trans f519_261 K521.1
    have f521_268 := own_staK0 f519_263 K521
    have f521_269 := own_staK0 f519_264 K521
    have f521_270 := p519_0.keep K521
    have f521_271 := p519_1.keep K521 nin0
    have f521_272 := p519_2.keep K521 nin0
    have f521_273 := p519_3.keep K521 nin0
    refine GoV.sg (mkF m 43 (Sh15 q1 q2 q3 q4 q5 3 0 b519_e0) [(.ref b521_e0)]) (fun t k => st521 t k) ?_
    refine GoV.sg (mkF m 45 (Sh16 q1 q2 q3 q4 q5 3 0 b519_e0 b521_e0) []) (fun t k => XS.astore X521.here hx rfl (hb hby at_43) rfl rfl (l' := (Sh16 q1 q2 q3 q4 q5 3 0 b519_e0 b521_e0)) rfl k) ?_
    obtain ⟨T522, h522, X522, e522, E522, A522, D522, -, st522⟩ := newO X521 hx hZ521 hown521 (ww hw 35 rfl) (ww hw 36 rfl) (ww hw 37 rfl) rfl (g := (mkF m 45 (Sh16 q1 q2 q3 q4 q5 3 0 b519_e0 b521_e0) [])) rfl (hb hby at_45) (by decide) (by decide)
    obtain ⟨b522, g522⟩ : ∃ z, z = T521.heap.size := ⟨_, rfl⟩
    rw [← g522] at A522 D522 st522
    have g_b522 : n0 ≤ b522 := Nat.le_trans f521_266 (Nat.le_of_eq g522.symm)
    have ne_b519_e0_b522 : b519_e0 ≠ b522 := Nat.ne_of_lt (Nat.lt_of_lt_of_eq f521_270.lt g522.symm)
    have ne_b519_e1_b522 : b519_e1 ≠ b522 := Nat.ne_of_lt (Nat.lt_of_lt_of_eq f521_273.lt g522.symm)
    have f522_276 := f521_268.ext E522
    have f522_277 := f521_269.ext E522
    have f522_278 := f521_270.ext E522
    have f522_279 := f521_271.ext E522
    have f522_280 := f521_272.ext E522
    have f522_281 := f521_273.ext E522
    have f522_282 := Nat.le_trans (Nat.le_refl _) E522.1
    have F522name : Fld Z h522 b522 "com/example/relaystack/relaystack/CommandLine$Option" "name" "Ljava/lang/String;" .null := D522 (Or.inr (ww hw 48 rfl)) (ty := (.object "java/lang/String")) (by decide)
    have F522given : Fld Z h522 b522 "com/example/relaystack/relaystack/CommandLine$Option" "given" "Ljava/lang/String;" .null := D522 (Or.inr (ww hw 50 rfl)) (ty := (.object "java/lang/String")) (by decide)
    refine GoV.sg (mkF m 48 (Sh16 q1 q2 q3 q4 q5 3 0 b519_e0 b521_e0) [(.ref b522)]) (fun t k => st522 t k) ?_
    refine GoV.sg (mkF m 49 (Sh16 q1 q2 q3 q4 q5 3 0 b519_e0 b521_e0) [(.ref b522), (.ref b522)]) (fun t k => XS.dup X522.here hx rfl (hb hby at_48) rfl rfl k) ?_
    refine GoV.sg (mkF m 51 (Sh16 q1 q2 q3 q4 q5 3 0 b519_e0 b521_e0) [(.ref b521_e0), (.ref b522), (.ref b522)]) (fun t k => XS.aload X522.here hx rfl (hb hby at_49) rfl rfl k) ?_
    refine GoV.sg (mkF m 53 (Sh16 q1 q2 q3 q4 q5 3 0 b519_e0 b521_e0) [(.ref b519_e0), (.ref b521_e0), (.ref b522), (.ref b522)]) (fun t k => XS.aload X522.here hx rfl (hb hby at_51) rfl rfl k) ?_
    obtain ⟨_, _, ⟨T526, L526, k526, n526⟩, -, X526, ⟨Lc526, hQ526, l526, y526, z526⟩, st526⟩ := X522.specialBack hx (y := Y8) rfl hown521 (mvT hZ521 (ww hw 38 rfl)) (mvT hZ521 (ww hw 39 rfl)) (mvT hZ521 (ww hw 40 rfl)) (by decide) (backOf (W := 1) (rm8_8 l Z a0 hw [] b522 b521_e0 b519_e0  h522 n0  A522 F522given F522name g_b522   ) hZ521 (ww hw 40 rfl) (ww hw 37 rfl) (by decide) (by decide)) (g := (mkF m 53 (Sh16 q1 q2 q3 q4 q5 3 0 b519_e0 b521_e0) [(.ref b519_e0), (.ref b521_e0), (.ref b522), (.ref b522)])) rfl (by rw [hml]; rfl) (Steps.refl _) (a := b522) (argsL := [(.ref b521_e0), (.ref b519_e0)]) (rest := [(.ref b522)]) (lenOf pd_28Ljava2flang2fString3bLjava2flang2fString3b29V rfl) rfl (by show 2 * 0 + _ ≤ _; exact Nat.le_of_eq rfl) (hb hby at_53) (fun _ _ => ⟨rfl, e522, (by decide : 8 + 0 ≤ _), (by decide : 20 + 0 ≤ _)⟩)
    dsimp only [Pt.U, Pt.locs, Pt.cells, Pt.slots] at X526 l526 y526 z526 st526 hQ526
    subst l526 y526 z526
    obtain ⟨rfl, N526q, K526, p526_0, p526_1, p526_2⟩ := hQ526
    have N526 := Fr.app N521 N526q
    have f526_285 := own_staK f522_276 K526 (allS (own_nsE A522) all0)
    have f526_286 := own_staK f522_277 K526 (allS (own_nsE A522) all0)
    have f526_287 := f522_278.keep K526
    have f526_288 := f522_279.keep K526 (ninS ne_b519_e0_b522 nin0)
    have f526_289 := f522_280.keep K526 (ninS ne_b519_e0_b522 nin0)
    have f526_290 := f522_281.keep K526 (ninS ne_b519_e1_b522 nin0)
    have f526_291 := Nat.le_trans f522_282 K526.1
    refine GoV.sg (mkF m 56 (Sh16 q1 q2 q3 q4 q5 3 0 b519_e0 b521_e0) [(.ref b522)]) (fun t k => st526.trans k) ?_
    refine GoV.sg (mkF m 58 (Sh18 q1 q2 q3 q4 q5 3 0 b519_e0 b521_e0 b522) []) (fun t k => XS.astore X526.here hx rfl (hb hby at_56) rfl rfl (l' := (Sh18 q1 q2 q3 q4 q5 3 0 b519_e0 b521_e0 b522)) rfl k) ?_
    refine GoV.sg (mkF m 60 (Sh18 q1 q2 q3 q4 q5 3 0 b519_e0 b521_e0 b522) [(.ref b522)]) (fun t k => XS.aload X526.here hx rfl (hb hby at_58) rfl rfl k) ?_
    obtain ⟨cq541, kq541, q541a, q541b, q541c⟩ := isOf hZ521 rfl p526_0
    obtain ⟨_, _, ⟨T541, L541, k541, n541⟩, -, X541, ⟨Lc541, hQ541, l541, y541, z541⟩, st541⟩ := X526.virtualBack hx (y := Y10) (z := Y10) hown521 (mvT hZ521 (ww hw 51 rfl)) (mvT hZ521 (ww hw 52 rfl)) (notFace_of_selects (args := #[]) (mvT hZ521 (ww hw 54 rfl))) (mvT hZ521 (ww hw 54 rfl)) (mvT hZ521 (ww hw 53 rfl)) (by decide) (backOf (W := 0) (rm10_55 l Z a0 hw [] b522 b519_e0 b519_e1 k519_ke1 (lat8 (chA q1)) (lat8 (chB q1)) (lat8 (chC q1)) T526.heap n0  f526_287 p526_1 f526_289 f526_290    ) hZ521 (ww hw 55 rfl) (ww hw 37 rfl) (by decide) (by decide)) q541a q541c (g := (mkF m 60 (Sh18 q1 q2 q3 q4 q5 3 0 b519_e0 b521_e0 b522) [(.ref b522)])) rfl (by rw [hml]; rfl) (Steps.refl _) (argsL := []) (rest := []) (lenOf pd_2829Ljava2flang2fString3b rfl) rfl (by show 2 * 0 + _ ≤ _; exact Nat.le_of_eq rfl) (hb hby at_60) (fun _ _ => ⟨rfl, rfl, (by decide : 8 + 0 ≤ _), (by decide : 20 + 0 ≤ _)⟩)
    dsimp only [Pt.U, Pt.locs, Pt.cells, Pt.slots] at X541 l541 y541 z541 st541 hQ541
    subst l541 y541 z541
    obtain ⟨rfl, N541q, e541⟩ := hQ541
    have N541 := Fr.app N526 N541q
    refine GoV.sg (mkF m 63 (Sh18 q1 q2 q3 q4 q5 3 0 b519_e0 b521_e0 b522) [(.ref b519_e0)]) (fun t k => st541.trans k) ?_
    refine GoV.sg (mkF m 65 (Sh19 q1 q2 q3 q4 q5 3 0 b519_e0 b521_e0 b522 b519_e0) []) (fun t k => XS.astore X541.here hx rfl (hb hby at_63) rfl rfl (l' := (Sh19 q1 q2 q3 q4 q5 3 0 b519_e0 b521_e0 b522 b519_e0)) rfl k) ?_
    refine GoV.sg (mkF m 67 (Sh19 q1 q2 q3 q4 q5 3 0 b519_e0 b521_e0 b522 b519_e0) [(.ref b519_e0)]) (fun t k => XS.aload X541.here hx rfl (hb hby at_65) rfl rfl k) ?_
    refine GoV.sg (mkF m 69 (Sh19 q1 q2 q3 q4 q5 3 0 b519_e0 b521_e0 b522 b519_e0) [(.ref b519_e0), (.ref b519_e0)]) (fun t k => XS.aload X541.here hx rfl (hb hby at_67) rfl rfl k) ?_
    refine GoV.sg (mkF m 74 (Sh19 q1 q2 q3 q4 q5 3 0 b519_e0 b521_e0 b522 b519_e0) []) (fun t k => Jvm.RoadKit.acmp X541 hx rfl (cd := .eq) (x := (.ref b519_e0)) (y := (.ref b519_e0)) rfl rfl (pc0 := 69) (pc' := 74) (same := true) rfl (hb hby at_69) rfl (decide_eq_true rfl) (by decide) (by decide) k) ?_
    refine GoV.sg (mkF m 76 (Sh19 q1 q2 q3 q4 q5 3 0 b519_e0 b521_e0 b522 b519_e0) [(.ref b519_e0)]) (fun t k => XS.aload X541.here hx rfl (hb hby at_74) rfl rfl k) ?_
    obtain ⟨cq552, kq552, q552a, q552b, q552c⟩ := isOf hZ521 e541 f526_287
    obtain ⟨_, _, ⟨T552, L552, k552, n552⟩, -, X552, ⟨Lc552, hQ552, l552, y552, z552⟩, st552⟩ := X541.virtualBack hx (y := Y12) (z := Y12) hown521 (mvT hZ521 (ww hw 61 rfl)) (mvT hZ521 (ww hw 62 rfl)) (notFace_of_selects (args := #[]) (mvT hZ521 (ww hw 64 rfl))) (mvT hZ521 (ww hw 64 rfl)) (mvT hZ521 (ww hw 63 rfl)) (by decide) (backOf (W := 0) (rm12_56 l Z a0 hw [] b519_e0 b519_e1 k519_ke1 (lat8 (chA q1)) (lat8 (chB q1)) (lat8 (chC q1)) cs T526.heap n0  f526_287 f526_288 f526_289 f526_290 f526_285   ncs ) hZ521 (ww hw 65 rfl) (ww hw 7 rfl) (by decide) (by decide)) q552a q552c (g := (mkF m 76 (Sh19 q1 q2 q3 q4 q5 3 0 b519_e0 b521_e0 b522 b519_e0) [(.ref b519_e0)])) rfl (by rw [hml]; rfl) (Steps.refl _) (argsL := []) (rest := []) (lenOf pd_2829I rfl) rfl (by show 2 * 0 + _ ≤ _; exact Nat.le_of_eq rfl) (hb hby at_76) (fun _ _ => ⟨rfl, e541, (by decide : 8 + 0 ≤ _), (by decide : 20 + 0 ≤ _)⟩)
    dsimp only [Pt.U, Pt.locs, Pt.cells, Pt.slots] at X552 l552 y552 z552 st552 hQ552
    subst l552 y552 z552
    obtain ⟨rfl, N552q, e552⟩ := hQ552
    have N552 := Fr.app N541 N552q
    refine GoV.sg (mkF m 79 (Sh19 q1 q2 q3 q4 q5 3 0 b519_e0 b521_e0 b522 b519_e0) [(.int 3)]) (fun t k => st552.trans k) ?_
    refine GoV.sg (mkF m 81 (Sh19 q1 q2 q3 q4 q5 3 0 b519_e0 b521_e0 b522 b519_e0) [(.int 3), (.int 3)]) (fun t k => XS.iload X552.here hx rfl (hb hby at_79) rfl k) ?_
    refine GoV.sg (mkF m 86 (Sh19 q1 q2 q3 q4 q5 3 0 b519_e0 b521_e0 b522 b519_e0) []) (fun t k => XS.icmpYes X552.here hx rfl (pc0 := 81) (pc' := 86) rfl (hb hby at_81) rfl (by decide) (by decide) (by decide) k) ?_
    rcases ref_cases hvf with rfl | ⟨af, rfl⟩
    ·show GoV p e below s (ValQ (.int (1 : Int32)) n0) room_1.cells room_1.slots (T552.setTop (mkF m 86 (Sh19 q1 q2 q3 q4 q5 3 0 b519_e0 b521_e0 b522 b519_e0) []))
     refine GoV.sg (mkF m 88 (Sh19 q1 q2 q3 q4 q5 3 0 b519_e0 b521_e0 b522 b519_e0) [(.ref b519_e0)]) (fun t k => XS.aload X552.here hx rfl (hb hby at_86) rfl rfl k) ?_
     refine GoV.sg (mkF m 89 (Sh19 q1 q2 q3 q4 q5 3 0 b519_e0 b521_e0 b522 b519_e0) [(.int 0), (.ref b519_e0)]) (fun t k => XS.iconst X552.here hx rfl (hb hby at_88) k) ?_
     obtain ⟨cq573, kq573, q573a, q573b, q573c⟩ := isOf hZ521 e552 f526_287
     obtain ⟨_, _, ⟨T573, L573, k573, n573⟩, -, X573, ⟨Lc573, hQ573, l573, y573, z573⟩, st573⟩ := X552.virtualBack hx (y := Y14) (z := Y14) hown521 (mvT hZ521 (ww hw 71 rfl)) (mvT hZ521 (ww hw 72 rfl)) (notFace_of_selects (args := #[]) (mvT hZ521 (ww hw 74 rfl))) (mvT hZ521 (ww hw 74 rfl)) (mvT hZ521 (ww hw 73 rfl)) (by decide) (backOf (W := 0) (rm14_60 l Z a0 hw [] b519_e0 b519_e1 k519_ke1 (lat8 (chA q1)) (lat8 (chB q1)) (lat8 (chC q1)) cs T526.heap n0  f526_287 f526_288 f526_289 f526_290 f526_285 f526_286   ncs ) hZ521 (ww hw 75 rfl) (ww hw 7 rfl) (by decide) (by decide)) q573a q573c (g := (mkF m 89 (Sh19 q1 q2 q3 q4 q5 3 0 b519_e0 b521_e0 b522 b519_e0) [(.int 0), (.ref b519_e0)])) rfl (by rw [hml]; rfl) (Steps.refl _) (argsL := [(.int (0 : Int32))]) (rest := []) (lenOf pd_28I29C rfl) rfl (by show 2 * 0 + _ ≤ _; exact Nat.le_of_eq rfl) (hb hby at_89) (fun _ _ => ⟨rfl, e552, (by decide : 8 + 0 ≤ _), (by decide : 20 + 0 ≤ _)⟩)
     dsimp only [Pt.U, Pt.locs, Pt.cells, Pt.slots] at X573 l573 y573 z573 st573 hQ573
     subst l573 y573 z573
     obtain ⟨rfl, N573q, e573⟩ := hQ573
     have N573 := Fr.app N552 N573q
     refine GoV.sg (mkF m 92 (Sh19 q1 q2 q3 q4 q5 3 0 b519_e0 b521_e0 b522 b519_e0) [(.int (nar .char (nar .char ((lat8 (chA q1)) &&& (255 : Int32)).toUInt32.toUInt16.toUInt32.toInt32)))]) (fun t k => st573.trans k) ?_
     rw [show (nar .char (nar .char ((lat8 (chA q1)) &&& (255 : Int32)).toUInt32.toUInt16.toUInt32.toInt32)) = (chA q1) from (own_back _ (own_rA q1))]
     refine GoV.sg (mkF m 93 (Sh19 q1 q2 q3 q4 q5 3 0 b519_e0 b521_e0 b522 b519_e0) [(.int q1), (.int (chA q1))]) (fun t k => XS.iloadN X573.here hx rfl (hb hby at_92) rfl k) ?_
     refine GoV.sg (mkF m 96 (Sh19 q1 q2 q3 q4 q5 3 0 b519_e0 b521_e0 b522 b519_e0) [(.int 255), (.int q1), (.int (chA q1))]) (fun t k => XS.sipush X573.here hx rfl (hb hby at_93) k) ?_
     refine GoV.sg (mkF m 97 (Sh19 q1 q2 q3 q4 q5 3 0 b519_e0 b521_e0 b522 b519_e0) [(.int (q1 &&& (255 : Int32))), (.int (chA q1))]) (fun t k => XS.iand X573.here hx rfl (hb hby at_96) rfl k) ?_
     refine GoV.sg (mkF m 98 (Sh19 q1 q2 q3 q4 q5 3 0 b519_e0 b521_e0 b522 b519_e0) [(.int (q1 &&& (255 : Int32)).toUInt32.toUInt16.toUInt32.toInt32), (.int (chA q1))]) (fun t k => XS.i2c X573.here hx rfl (hb hby at_97) rfl k) ?_
     rw [own_cA q1]
     show GoV p e below s (ValQ (.int (1 : Int32)) n0) room_1.cells room_1.slots (T573.setTop (mkF m 98 (Sh19 q1 q2 q3 q4 q5 3 0 b519_e0 b521_e0 b522 b519_e0) [(.int (chA q1)), (.int (chA q1))]))
     refine GoV.sg (mkF m 103 (Sh19 q1 q2 q3 q4 q5 3 0 b519_e0 b521_e0 b522 b519_e0) []) (fun t k => XS.icmpYes X573.here hx rfl (pc0 := 98) (pc' := 103) rfl (hb hby at_98) rfl (teq rfl).1 (by decide) (by decide) k) ?_
     refine GoV.sg (mkF m 105 (Sh19 q1 q2 q3 q4 q5 3 0 b519_e0 b521_e0 b522 b519_e0) [(.int 3)]) (fun t k => XS.iload X573.here hx rfl (hb hby at_103) rfl k) ?_
     refine GoV.sg (mkF m 106 (Sh19 q1 q2 q3 q4 q5 3 0 b519_e0 b521_e0 b522 b519_e0) [(.int 2), (.int 3)]) (fun t k => XS.iconst X573.here hx rfl (hb hby at_105) k) ?_
     refine GoV.sg (mkF m 109 (Sh19 q1 q2 q3 q4 q5 3 0 b519_e0 b521_e0 b522 b519_e0) []) (fun t k => XS.icmpNo X573.here hx rfl (hb hby at_106) rfl (by decide) k) ?_
     refine GoV.sg (mkF m 111 (Sh19 q1 q2 q3 q4 q5 3 0 b519_e0 b521_e0 b522 b519_e0) [(.ref b519_e0)]) (fun t k => XS.aload X573.here hx rfl (hb hby at_109) rfl rfl k) ?_
     refine GoV.sg (mkF m 112 (Sh19 q1 q2 q3 q4 q5 3 0 b519_e0 b521_e0 b522 b519_e0) [(.int 1), (.ref b519_e0)]) (fun t k => XS.iconst X573.here hx rfl (hb hby at_111) k) ?_
     obtain ⟨cq592, kq592, q592a, q592b, q592c⟩ := isOf hZ521 e573 f526_287
     obtain ⟨_, _, ⟨T592, L592, k592, n592⟩, -, X592, ⟨Lc592, hQ592, l592, y592, z592⟩, st592⟩ := X573.virtualBack hx (y := Y14) (z := Y14) hown521 (mvT hZ521 (ww hw 71 rfl)) (mvT hZ521 (ww hw 72 rfl)) (notFace_of_selects (args := #[]) (mvT hZ521 (ww hw 74 rfl))) (mvT hZ521 (ww hw 74 rfl)) (mvT hZ521 (ww hw 73 rfl)) (by decide) (backOf (W := 0) (rm14_64 l Z a0 hw [] b519_e0 b519_e1 k519_ke1 (lat8 (chA q1)) (lat8 (chB q1)) (lat8 (chC q1)) cs T526.heap n0  f526_287 f526_288 f526_289 f526_290 f526_285 f526_286   ncs ) hZ521 (ww hw 75 rfl) (ww hw 7 rfl) (by decide) (by decide)) q592a q592c (g := (mkF m 112 (Sh19 q1 q2 q3 q4 q5 3 0 b519_e0 b521_e0 b522 b519_e0) [(.int 1), (.ref b519_e0)])) rfl (by rw [hml]; rfl) (Steps.refl _) (argsL := [(.int (1 : Int32))]) (rest := []) (lenOf pd_28I29C rfl) rfl (by show 2 * 0 + _ ≤ _; exact Nat.le_of_eq rfl) (hb hby at_112) (fun _ _ => ⟨rfl, e573, (by decide : 8 + 0 ≤ _), (by decide : 20 + 0 ≤ _)⟩)
     dsimp only [Pt.U, Pt.locs, Pt.cells, Pt.slots] at X592 l592 y592 z592 st592 hQ592
     subst l592 y592 z592
     obtain ⟨rfl, N592q, e592⟩ := hQ592
     have N592 := Fr.app N573 N592q
     refine GoV.sg (mkF m 115 (Sh19 q1 q2 q3 q4 q5 3 0 b519_e0 b521_e0 b522 b519_e0) [(.int (nar .char (nar .char ((lat8 (chB q1)) &&& (255 : Int32)).toUInt32.toUInt16.toUInt32.toInt32)))]) (fun t k => st592.trans k) ?_
     rw [show (nar .char (nar .char ((lat8 (chB q1)) &&& (255 : Int32)).toUInt32.toUInt16.toUInt32.toInt32)) = (chB q1) from (own_back _ (own_rB q1))]
     refine GoV.sg (mkF m 116 (Sh19 q1 q2 q3 q4 q5 3 0 b519_e0 b521_e0 b522 b519_e0) [(.int q1), (.int (chB q1))]) (fun t k => XS.iloadN X592.here hx rfl (hb hby at_115) rfl k) ?_
     refine GoV.sg (mkF m 118 (Sh19 q1 q2 q3 q4 q5 3 0 b519_e0 b521_e0 b522 b519_e0) [(.int 8), (.int q1), (.int (chB q1))]) (fun t k => XS.bipush X592.here hx rfl (hb hby at_116) k) ?_
     refine GoV.sg (mkF m 119 (Sh19 q1 q2 q3 q4 q5 3 0 b519_e0 b521_e0 b522 b519_e0) [(.int (q1.toUInt32 >>> ((8 : Int32) &&& 31).toUInt32).toInt32), (.int (chB q1))]) (fun t k => XS.iushr X592.here hx rfl (hb hby at_118) rfl k) ?_
     refine GoV.sg (mkF m 122 (Sh19 q1 q2 q3 q4 q5 3 0 b519_e0 b521_e0 b522 b519_e0) [(.int 255), (.int (q1.toUInt32 >>> ((8 : Int32) &&& 31).toUInt32).toInt32), (.int (chB q1))]) (fun t k => XS.sipush X592.here hx rfl (hb hby at_119) k) ?_
     refine GoV.sg (mkF m 123 (Sh19 q1 q2 q3 q4 q5 3 0 b519_e0 b521_e0 b522 b519_e0) [(.int ((q1.toUInt32 >>> ((8 : Int32) &&& 31).toUInt32).toInt32 &&& (255 : Int32))), (.int (chB q1))]) (fun t k => XS.iand X592.here hx rfl (hb hby at_122) rfl k) ?_
     refine GoV.sg (mkF m 124 (Sh19 q1 q2 q3 q4 q5 3 0 b519_e0 b521_e0 b522 b519_e0) [(.int ((q1.toUInt32 >>> ((8 : Int32) &&& 31).toUInt32).toInt32 &&& (255 : Int32)).toUInt32.toUInt16.toUInt32.toInt32), (.int (chB q1))]) (fun t k => XS.i2c X592.here hx rfl (hb hby at_123) rfl k) ?_
     rw [own_cB q1]
     show GoV p e below s (ValQ (.int (1 : Int32)) n0) room_1.cells room_1.slots (T592.setTop (mkF m 124 (Sh19 q1 q2 q3 q4 q5 3 0 b519_e0 b521_e0 b522 b519_e0) [(.int (chB q1)), (.int (chB q1))]))
     refine GoV.sg (mkF m 129 (Sh19 q1 q2 q3 q4 q5 3 0 b519_e0 b521_e0 b522 b519_e0) []) (fun t k => XS.icmpYes X592.here hx rfl (pc0 := 124) (pc' := 129) rfl (hb hby at_124) rfl (teq rfl).1 (by decide) (by decide) k) ?_
     refine GoV.sg (mkF m 131 (Sh19 q1 q2 q3 q4 q5 3 0 b519_e0 b521_e0 b522 b519_e0) [(.int 3)]) (fun t k => XS.iload X592.here hx rfl (hb hby at_129) rfl k) ?_
     refine GoV.sg (mkF m 132 (Sh19 q1 q2 q3 q4 q5 3 0 b519_e0 b521_e0 b522 b519_e0) [(.int 3), (.int 3)]) (fun t k => XS.iconst X592.here hx rfl (hb hby at_131) k) ?_
     refine GoV.sg (mkF m 135 (Sh19 q1 q2 q3 q4 q5 3 0 b519_e0 b521_e0 b522 b519_e0) []) (fun t k => XS.icmpNo X592.here hx rfl (hb hby at_132) rfl (by decide) k) ?_
     refine GoV.sg (mkF m 137 (Sh19 q1 q2 q3 q4 q5 3 0 b519_e0 b521_e0 b522 b519_e0) [(.ref b519_e0)]) (fun t k => XS.aload X592.here hx rfl (hb hby at_135) rfl rfl k) ?_
     refine GoV.sg (mkF m 138 (Sh19 q1 q2 q3 q4 q5 3 0 b519_e0 b521_e0 b522 b519_e0) [(.int 2), (.ref b519_e0)]) (fun t k => XS.iconst X592.here hx rfl (hb hby at_137) k) ?_
     obtain ⟨cq611, kq611, q611a, q611b, q611c⟩ := isOf hZ521 e592 f526_287
     obtain ⟨_, _, ⟨T611, L611, k611, n611⟩, -, X611, ⟨Lc611, hQ611, l611, y611, z611⟩, st611⟩ := X592.virtualBack hx (y := Y14) (z := Y14) hown521 (mvT hZ521 (ww hw 71 rfl)) (mvT hZ521 (ww hw 72 rfl)) (notFace_of_selects (args := #[]) (mvT hZ521 (ww hw 74 rfl))) (mvT hZ521 (ww hw 74 rfl)) (mvT hZ521 (ww hw 73 rfl)) (by decide) (backOf (W := 0) (rm14_68 l Z a0 hw [] b519_e0 b519_e1 k519_ke1 (lat8 (chA q1)) (lat8 (chB q1)) (lat8 (chC q1)) cs T526.heap n0  f526_287 f526_288 f526_289 f526_290 f526_285 f526_286   ncs ) hZ521 (ww hw 75 rfl) (ww hw 7 rfl) (by decide) (by decide)) q611a q611c (g := (mkF m 138 (Sh19 q1 q2 q3 q4 q5 3 0 b519_e0 b521_e0 b522 b519_e0) [(.int 2), (.ref b519_e0)])) rfl (by rw [hml]; rfl) (Steps.refl _) (argsL := [(.int (2 : Int32))]) (rest := []) (lenOf pd_28I29C rfl) rfl (by show 2 * 0 + _ ≤ _; exact Nat.le_of_eq rfl) (hb hby at_138) (fun _ _ => ⟨rfl, e592, (by decide : 8 + 0 ≤ _), (by decide : 20 + 0 ≤ _)⟩)
     dsimp only [Pt.U, Pt.locs, Pt.cells, Pt.slots] at X611 l611 y611 z611 st611 hQ611
     subst l611 y611 z611
     obtain ⟨rfl, N611q, e611⟩ := hQ611
     have N611 := Fr.app N592 N611q
     refine GoV.sg (mkF m 141 (Sh19 q1 q2 q3 q4 q5 3 0 b519_e0 b521_e0 b522 b519_e0) [(.int (nar .char (nar .char ((lat8 (chC q1)) &&& (255 : Int32)).toUInt32.toUInt16.toUInt32.toInt32)))]) (fun t k => st611.trans k) ?_
     rw [show (nar .char (nar .char ((lat8 (chC q1)) &&& (255 : Int32)).toUInt32.toUInt16.toUInt32.toInt32)) = (chC q1) from (own_back _ (own_rC q1))]
     refine GoV.sg (mkF m 142 (Sh19 q1 q2 q3 q4 q5 3 0 b519_e0 b521_e0 b522 b519_e0) [(.int q1), (.int (chC q1))]) (fun t k => XS.iloadN X611.here hx rfl (hb hby at_141) rfl k) ?_
     refine GoV.sg (mkF m 144 (Sh19 q1 q2 q3 q4 q5 3 0 b519_e0 b521_e0 b522 b519_e0) [(.int 16), (.int q1), (.int (chC q1))]) (fun t k => XS.bipush X611.here hx rfl (hb hby at_142) k) ?_
     refine GoV.sg (mkF m 145 (Sh19 q1 q2 q3 q4 q5 3 0 b519_e0 b521_e0 b522 b519_e0) [(.int (q1.toUInt32 >>> ((16 : Int32) &&& 31).toUInt32).toInt32), (.int (chC q1))]) (fun t k => XS.iushr X611.here hx rfl (hb hby at_144) rfl k) ?_
     refine GoV.sg (mkF m 148 (Sh19 q1 q2 q3 q4 q5 3 0 b519_e0 b521_e0 b522 b519_e0) [(.int 255), (.int (q1.toUInt32 >>> ((16 : Int32) &&& 31).toUInt32).toInt32), (.int (chC q1))]) (fun t k => XS.sipush X611.here hx rfl (hb hby at_145) k) ?_
     refine GoV.sg (mkF m 149 (Sh19 q1 q2 q3 q4 q5 3 0 b519_e0 b521_e0 b522 b519_e0) [(.int ((q1.toUInt32 >>> ((16 : Int32) &&& 31).toUInt32).toInt32 &&& (255 : Int32))), (.int (chC q1))]) (fun t k => XS.iand X611.here hx rfl (hb hby at_148) rfl k) ?_
     refine GoV.sg (mkF m 150 (Sh19 q1 q2 q3 q4 q5 3 0 b519_e0 b521_e0 b522 b519_e0) [(.int ((q1.toUInt32 >>> ((16 : Int32) &&& 31).toUInt32).toInt32 &&& (255 : Int32)).toUInt32.toUInt16.toUInt32.toInt32), (.int (chC q1))]) (fun t k => XS.i2c X611.here hx rfl (hb hby at_149) rfl k) ?_
     rw [own_cC q1]
     show GoV p e below s (ValQ (.int (1 : Int32)) n0) room_1.cells room_1.slots (T611.setTop (mkF m 150 (Sh19 q1 q2 q3 q4 q5 3 0 b519_e0 b521_e0 b522 b519_e0) [(.int (chC q1)), (.int (chC q1))]))
     refine GoV.sg (mkF m 155 (Sh19 q1 q2 q3 q4 q5 3 0 b519_e0 b521_e0 b522 b519_e0) []) (fun t k => XS.icmpYes X611.here hx rfl (pc0 := 150) (pc' := 155) rfl (hb hby at_150) rfl (teq rfl).1 (by decide) (by decide) k) ?_
     refine GoV.sg (mkF m 156 (Sh19 q1 q2 q3 q4 q5 3 0 b519_e0 b521_e0 b522 b519_e0) [(.int 1)]) (fun t k => XS.iconst X611.here hx rfl (hb hby at_155) k) ?_
     refine GoV.retN X611 hS521 (by rw [e611]; exact f526_291) hx (t := .boolean) Bd.returns (by simp) (hb hby at_156) Bd.notSynchronized ?_ (by decide) (by decide)
     exact ⟨rfl, N611⟩
    ·show GoV p e below s (ValQ (.int (1 : Int32)) n0) room_1.cells room_1.slots (T552.setTop (mkF m 86 (Sh19 q1 q2 q3 q4 q5 3 0 b519_e0 b521_e0 b522 b519_e0) []))
     refine GoV.sg (mkF m 88 (Sh19 q1 q2 q3 q4 q5 3 0 b519_e0 b521_e0 b522 b519_e0) [(.ref b519_e0)]) (fun t k => XS.aload X552.here hx rfl (hb hby at_86) rfl rfl k) ?_
     refine GoV.sg (mkF m 89 (Sh19 q1 q2 q3 q4 q5 3 0 b519_e0 b521_e0 b522 b519_e0) [(.int 0), (.ref b519_e0)]) (fun t k => XS.iconst X552.here hx rfl (hb hby at_88) k) ?_
     obtain ⟨cq632, kq632, q632a, q632b, q632c⟩ := isOf hZ521 e552 f526_287
     obtain ⟨_, _, ⟨T632, L632, k632, n632⟩, -, X632, ⟨Lc632, hQ632, l632, y632, z632⟩, st632⟩ := X552.virtualBack hx (y := Y14) (z := Y14) hown521 (mvT hZ521 (ww hw 71 rfl)) (mvT hZ521 (ww hw 72 rfl)) (notFace_of_selects (args := #[]) (mvT hZ521 (ww hw 74 rfl))) (mvT hZ521 (ww hw 74 rfl)) (mvT hZ521 (ww hw 73 rfl)) (by decide) (backOf (W := 0) (rm14_72 l Z a0 hw [] b519_e0 b519_e1 k519_ke1 (lat8 (chA q1)) (lat8 (chB q1)) (lat8 (chC q1)) cs af T526.heap n0  f526_287 f526_288 f526_289 f526_290 f526_285 f526_286   ncs ) hZ521 (ww hw 75 rfl) (ww hw 7 rfl) (by decide) (by decide)) q632a q632c (g := (mkF m 89 (Sh19 q1 q2 q3 q4 q5 3 0 b519_e0 b521_e0 b522 b519_e0) [(.int 0), (.ref b519_e0)])) rfl (by rw [hml]; rfl) (Steps.refl _) (argsL := [(.int (0 : Int32))]) (rest := []) (lenOf pd_28I29C rfl) rfl (by show 2 * 0 + _ ≤ _; exact Nat.le_of_eq rfl) (hb hby at_89) (fun _ _ => ⟨rfl, e552, (by decide : 8 + 0 ≤ _), (by decide : 20 + 0 ≤ _)⟩)
     dsimp only [Pt.U, Pt.locs, Pt.cells, Pt.slots] at X632 l632 y632 z632 st632 hQ632
     subst l632 y632 z632
     obtain ⟨rfl, N632q, e632⟩ := hQ632
     have N632 := Fr.app N552 N632q
     refine GoV.sg (mkF m 92 (Sh19 q1 q2 q3 q4 q5 3 0 b519_e0 b521_e0 b522 b519_e0) [(.int (nar .char (nar .char ((lat8 (chA q1)) &&& (255 : Int32)).toUInt32.toUInt16.toUInt32.toInt32)))]) (fun t k => st632.trans k) ?_
     rw [show (nar .char (nar .char ((lat8 (chA q1)) &&& (255 : Int32)).toUInt32.toUInt16.toUInt32.toInt32)) = (chA q1) from (own_back _ (own_rA q1))]
     refine GoV.sg (mkF m 93 (Sh19 q1 q2 q3 q4 q5 3 0 b519_e0 b521_e0 b522 b519_e0) [(.int q1), (.int (chA q1))]) (fun t k => XS.iloadN X632.here hx rfl (hb hby at_92) rfl k) ?_
     refine GoV.sg (mkF m 96 (Sh19 q1 q2 q3 q4 q5 3 0 b519_e0 b521_e0 b522 b519_e0) [(.int 255), (.int q1), (.int (chA q1))]) (fun t k => XS.sipush X632.here hx rfl (hb hby at_93) k) ?_
     refine GoV.sg (mkF m 97 (Sh19 q1 q2 q3 q4 q5 3 0 b519_e0 b521_e0 b522 b519_e0) [(.int (q1 &&& (255 : Int32))), (.int (chA q1))]) (fun t k => XS.iand X632.here hx rfl (hb hby at_96) rfl k) ?_
     refine GoV.sg (mkF m 98 (Sh19 q1 q2 q3 q4 q5 3 0 b519_e0 b521_e0 b522 b519_e0) [(.int (q1 &&& (255 : Int32)).toUInt32.toUInt16.toUInt32.toInt32), (.int (chA q1))]) (fun t k => XS.i2c X632.here hx rfl (hb hby at_97) rfl k) ?_
     rw [own_cA q1]
     show GoV p e below s (ValQ (.int (1 : Int32)) n0) room_1.cells room_1.slots (T632.setTop (mkF m 98 (Sh19 q1 q2 q3 q4 q5 3 0 b519_e0 b521_e0 b522 b519_e0) [(.int (chA q1)), (.int (chA q1))]))
     refine GoV.sg (mkF m 103 (Sh19 q1 q2 q3 q4 q5 3 0 b519_e0 b521_e0 b522 b519_e0) []) (fun t k => XS.icmpYes X632.here hx rfl (pc0 := 98) (pc' := 103) rfl (hb hby at_98) rfl (teq rfl).1 (by decide) (by decide) k) ?_
     refine GoV.sg (mkF m 105 (Sh19 q1 q2 q3 q4 q5 3 0 b519_e0 b521_e0 b522 b519_e0) [(.int 3)]) (fun t k => XS.iload X632.here hx rfl (hb hby at_103) rfl k) ?_
     refine GoV.sg (mkF m 106 (Sh19 q1 q2 q3 q4 q5 3 0 b519_e0 b521_e0 b522 b519_e0) [(.int 2), (.int 3)]) (fun t k => XS.iconst X632.here hx rfl (hb hby at_105) k) ?_
     refine GoV.sg (mkF m 109 (Sh19 q1 q2 q3 q4 q5 3 0 b519_e0 b521_e0 b522 b519_e0) []) (fun t k => XS.icmpNo X632.here hx rfl (hb hby at_106) rfl (by decide) k) ?_
     refine GoV.sg (mkF m 111 (Sh19 q1 q2 q3 q4 q5 3 0 b519_e0 b521_e0 b522 b519_e0) [(.ref b519_e0)]) (fun t k => XS.aload X632.here hx rfl (hb hby at_109) rfl rfl k) ?_
     refine GoV.sg (mkF m 112 (Sh19 q1 q2 q3 q4 q5 3 0 b519_e0 b521_e0 b522 b519_e0) [(.int 1), (.ref b519_e0)]) (fun t k => XS.iconst X632.here hx rfl (hb hby at_111) k) ?_
     obtain ⟨cq651, kq651, q651a, q651b, q651c⟩ := isOf hZ521 e632 f526_287
     obtain ⟨_, _, ⟨T651, L651, k651, n651⟩, -, X651, ⟨Lc651, hQ651, l651, y651, z651⟩, st651⟩ := X632.virtualBack hx (y := Y14) (z := Y14) hown521 (mvT hZ521 (ww hw 71 rfl)) (mvT hZ521 (ww hw 72 rfl)) (notFace_of_selects (args := #[]) (mvT hZ521 (ww hw 74 rfl))) (mvT hZ521 (ww hw 74 rfl)) (mvT hZ521 (ww hw 73 rfl)) (by decide) (backOf (W := 0) (rm14_76 l Z a0 hw [] b519_e0 b519_e1 k519_ke1 (lat8 (chA q1)) (lat8 (chB q1)) (lat8 (chC q1)) cs af T526.heap n0  f526_287 f526_288 f526_289 f526_290 f526_285 f526_286   ncs ) hZ521 (ww hw 75 rfl) (ww hw 7 rfl) (by decide) (by decide)) q651a q651c (g := (mkF m 112 (Sh19 q1 q2 q3 q4 q5 3 0 b519_e0 b521_e0 b522 b519_e0) [(.int 1), (.ref b519_e0)])) rfl (by rw [hml]; rfl) (Steps.refl _) (argsL := [(.int (1 : Int32))]) (rest := []) (lenOf pd_28I29C rfl) rfl (by show 2 * 0 + _ ≤ _; exact Nat.le_of_eq rfl) (hb hby at_112) (fun _ _ => ⟨rfl, e632, (by decide : 8 + 0 ≤ _), (by decide : 20 + 0 ≤ _)⟩)
     dsimp only [Pt.U, Pt.locs, Pt.cells, Pt.slots] at X651 l651 y651 z651 st651 hQ651
     subst l651 y651 z651
     obtain ⟨rfl, N651q, e651⟩ := hQ651
     have N651 := Fr.app N632 N651q
     refine GoV.sg (mkF m 115 (Sh19 q1 q2 q3 q4 q5 3 0 b519_e0 b521_e0 b522 b519_e0) [(.int (nar .char (nar .char ((lat8 (chB q1)) &&& (255 : Int32)).toUInt32.toUInt16.toUInt32.toInt32)))]) (fun t k => st651.trans k) ?_
     rw [show (nar .char (nar .char ((lat8 (chB q1)) &&& (255 : Int32)).toUInt32.toUInt16.toUInt32.toInt32)) = (chB q1) from (own_back _ (own_rB q1))]
     refine GoV.sg (mkF m 116 (Sh19 q1 q2 q3 q4 q5 3 0 b519_e0 b521_e0 b522 b519_e0) [(.int q1), (.int (chB q1))]) (fun t k => XS.iloadN X651.here hx rfl (hb hby at_115) rfl k) ?_
     refine GoV.sg (mkF m 118 (Sh19 q1 q2 q3 q4 q5 3 0 b519_e0 b521_e0 b522 b519_e0) [(.int 8), (.int q1), (.int (chB q1))]) (fun t k => XS.bipush X651.here hx rfl (hb hby at_116) k) ?_
     refine GoV.sg (mkF m 119 (Sh19 q1 q2 q3 q4 q5 3 0 b519_e0 b521_e0 b522 b519_e0) [(.int (q1.toUInt32 >>> ((8 : Int32) &&& 31).toUInt32).toInt32), (.int (chB q1))]) (fun t k => XS.iushr X651.here hx rfl (hb hby at_118) rfl k) ?_
     refine GoV.sg (mkF m 122 (Sh19 q1 q2 q3 q4 q5 3 0 b519_e0 b521_e0 b522 b519_e0) [(.int 255), (.int (q1.toUInt32 >>> ((8 : Int32) &&& 31).toUInt32).toInt32), (.int (chB q1))]) (fun t k => XS.sipush X651.here hx rfl (hb hby at_119) k) ?_
     refine GoV.sg (mkF m 123 (Sh19 q1 q2 q3 q4 q5 3 0 b519_e0 b521_e0 b522 b519_e0) [(.int ((q1.toUInt32 >>> ((8 : Int32) &&& 31).toUInt32).toInt32 &&& (255 : Int32))), (.int (chB q1))]) (fun t k => XS.iand X651.here hx rfl (hb hby at_122) rfl k) ?_
     refine GoV.sg (mkF m 124 (Sh19 q1 q2 q3 q4 q5 3 0 b519_e0 b521_e0 b522 b519_e0) [(.int ((q1.toUInt32 >>> ((8 : Int32) &&& 31).toUInt32).toInt32 &&& (255 : Int32)).toUInt32.toUInt16.toUInt32.toInt32), (.int (chB q1))]) (fun t k => XS.i2c X651.here hx rfl (hb hby at_123) rfl k) ?_
     rw [own_cB q1]
     show GoV p e below s (ValQ (.int (1 : Int32)) n0) room_1.cells room_1.slots (T651.setTop (mkF m 124 (Sh19 q1 q2 q3 q4 q5 3 0 b519_e0 b521_e0 b522 b519_e0) [(.int (chB q1)), (.int (chB q1))]))
     refine GoV.sg (mkF m 129 (Sh19 q1 q2 q3 q4 q5 3 0 b519_e0 b521_e0 b522 b519_e0) []) (fun t k => XS.icmpYes X651.here hx rfl (pc0 := 124) (pc' := 129) rfl (hb hby at_124) rfl (teq rfl).1 (by decide) (by decide) k) ?_
     refine GoV.sg (mkF m 131 (Sh19 q1 q2 q3 q4 q5 3 0 b519_e0 b521_e0 b522 b519_e0) [(.int 3)]) (fun t k => XS.iload X651.here hx rfl (hb hby at_129) rfl k) ?_
     refine GoV.sg (mkF m 132 (Sh19 q1 q2 q3 q4 q5 3 0 b519_e0 b521_e0 b522 b519_e0) [(.int 3), (.int 3)]) (fun t k => XS.iconst X651.here hx rfl (hb hby at_131) k) ?_
     refine GoV.sg (mkF m 135 (Sh19 q1 q2 q3 q4 q5 3 0 b519_e0 b521_e0 b522 b519_e0) []) (fun t k => XS.icmpNo X651.here hx rfl (hb hby at_132) rfl (by decide) k) ?_
     refine GoV.sg (mkF m 137 (Sh19 q1 q2 q3 q4 q5 3 0 b519_e0 b521_e0 b522 b519_e0) [(.ref b519_e0)]) (fun t k => XS.aload X651.here hx rfl (hb hby at_135) rfl rfl k) ?_
     refine GoV.sg (mkF m 138 (Sh19 q1 q2 q3 q4 q5 3 0 b519_e0 b521_e0 b522 b519_e0) [(.int 2), (.ref b519_e0)]) (fun t k => XS.iconst X651.here hx rfl (hb hby at_137) k) ?_
     obtain ⟨cq670, kq670, q670a, q670b, q670c⟩ := isOf hZ521 e651 f526_287
     obtain ⟨_, _, ⟨T670, L670, k670, n670⟩, -, X670, ⟨Lc670, hQ670, l670, y670, z670⟩, st670⟩ := X651.virtualBack hx (y := Y14) (z := Y14) hown521 (mvT hZ521 (ww hw 71 rfl)) (mvT hZ521 (ww hw 72 rfl)) (notFace_of_selects (args := #[]) (mvT hZ521 (ww hw 74 rfl))) (mvT hZ521 (ww hw 74 rfl)) (mvT hZ521 (ww hw 73 rfl)) (by decide) (backOf (W := 0) (rm14_80 l Z a0 hw [] b519_e0 b519_e1 k519_ke1 (lat8 (chA q1)) (lat8 (chB q1)) (lat8 (chC q1)) cs af T526.heap n0  f526_287 f526_288 f526_289 f526_290 f526_285 f526_286   ncs ) hZ521 (ww hw 75 rfl) (ww hw 7 rfl) (by decide) (by decide)) q670a q670c (g := (mkF m 138 (Sh19 q1 q2 q3 q4 q5 3 0 b519_e0 b521_e0 b522 b519_e0) [(.int 2), (.ref b519_e0)])) rfl (by rw [hml]; rfl) (Steps.refl _) (argsL := [(.int (2 : Int32))]) (rest := []) (lenOf pd_28I29C rfl) rfl (by show 2 * 0 + _ ≤ _; exact Nat.le_of_eq rfl) (hb hby at_138) (fun _ _ => ⟨rfl, e651, (by decide : 8 + 0 ≤ _), (by decide : 20 + 0 ≤ _)⟩)
     dsimp only [Pt.U, Pt.locs, Pt.cells, Pt.slots] at X670 l670 y670 z670 st670 hQ670
     subst l670 y670 z670
     obtain ⟨rfl, N670q, e670⟩ := hQ670
     have N670 := Fr.app N651 N670q
     refine GoV.sg (mkF m 141 (Sh19 q1 q2 q3 q4 q5 3 0 b519_e0 b521_e0 b522 b519_e0) [(.int (nar .char (nar .char ((lat8 (chC q1)) &&& (255 : Int32)).toUInt32.toUInt16.toUInt32.toInt32)))]) (fun t k => st670.trans k) ?_
     rw [show (nar .char (nar .char ((lat8 (chC q1)) &&& (255 : Int32)).toUInt32.toUInt16.toUInt32.toInt32)) = (chC q1) from (own_back _ (own_rC q1))]
     refine GoV.sg (mkF m 142 (Sh19 q1 q2 q3 q4 q5 3 0 b519_e0 b521_e0 b522 b519_e0) [(.int q1), (.int (chC q1))]) (fun t k => XS.iloadN X670.here hx rfl (hb hby at_141) rfl k) ?_
     refine GoV.sg (mkF m 144 (Sh19 q1 q2 q3 q4 q5 3 0 b519_e0 b521_e0 b522 b519_e0) [(.int 16), (.int q1), (.int (chC q1))]) (fun t k => XS.bipush X670.here hx rfl (hb hby at_142) k) ?_
     refine GoV.sg (mkF m 145 (Sh19 q1 q2 q3 q4 q5 3 0 b519_e0 b521_e0 b522 b519_e0) [(.int (q1.toUInt32 >>> ((16 : Int32) &&& 31).toUInt32).toInt32), (.int (chC q1))]) (fun t k => XS.iushr X670.here hx rfl (hb hby at_144) rfl k) ?_
     refine GoV.sg (mkF m 148 (Sh19 q1 q2 q3 q4 q5 3 0 b519_e0 b521_e0 b522 b519_e0) [(.int 255), (.int (q1.toUInt32 >>> ((16 : Int32) &&& 31).toUInt32).toInt32), (.int (chC q1))]) (fun t k => XS.sipush X670.here hx rfl (hb hby at_145) k) ?_
     refine GoV.sg (mkF m 149 (Sh19 q1 q2 q3 q4 q5 3 0 b519_e0 b521_e0 b522 b519_e0) [(.int ((q1.toUInt32 >>> ((16 : Int32) &&& 31).toUInt32).toInt32 &&& (255 : Int32))), (.int (chC q1))]) (fun t k => XS.iand X670.here hx rfl (hb hby at_148) rfl k) ?_
     refine GoV.sg (mkF m 150 (Sh19 q1 q2 q3 q4 q5 3 0 b519_e0 b521_e0 b522 b519_e0) [(.int ((q1.toUInt32 >>> ((16 : Int32) &&& 31).toUInt32).toInt32 &&& (255 : Int32)).toUInt32.toUInt16.toUInt32.toInt32), (.int (chC q1))]) (fun t k => XS.i2c X670.here hx rfl (hb hby at_149) rfl k) ?_
     rw [own_cC q1]
     show GoV p e below s (ValQ (.int (1 : Int32)) n0) room_1.cells room_1.slots (T670.setTop (mkF m 150 (Sh19 q1 q2 q3 q4 q5 3 0 b519_e0 b521_e0 b522 b519_e0) [(.int (chC q1)), (.int (chC q1))]))
     refine GoV.sg (mkF m 155 (Sh19 q1 q2 q3 q4 q5 3 0 b519_e0 b521_e0 b522 b519_e0) []) (fun t k => XS.icmpYes X670.here hx rfl (pc0 := 150) (pc' := 155) rfl (hb hby at_150) rfl (teq rfl).1 (by decide) (by decide) k) ?_
     refine GoV.sg (mkF m 156 (Sh19 q1 q2 q3 q4 q5 3 0 b519_e0 b521_e0 b522 b519_e0) [(.int 1)]) (fun t k => XS.iconst X670.here hx rfl (hb hby at_155) k) ?_
     refine GoV.retN X670 hS521 (by rw [e670]; exact f526_291) hx (t := .boolean) Bd.returns (by simp) (hb hby at_156) Bd.notSynchronized ?_ (by decide) (by decide)
     exact ⟨rfl, N670⟩
   ·rw [vv]
    show GoV p e below s (ValQ (.int (1 : Int32)) n0) room_1.cells room_1.slots (T519.setTop (mkF m 37 (Sh15 q1 q2 q3 q4 q5 3 1 b519_e0) []))
    refine GoV.sg (mkF m 39 (Sh15 q1 q2 q3 q4 q5 3 1 b519_e0) [(.int 1)]) (fun t k => XS.iload X519.here hx rfl (hb hby at_37) rfl k) ?_
    refine GoV.sg (mkF m 40 (Sh15 q1 q2 q3 q4 q5 3 1 b519_e0) [(.int q2), (.int 1)]) (fun t k => XS.iloadN X519.here hx rfl (hb hby at_39) rfl k) ?_
    obtain ⟨_, T671, L671, X671, hQ671, st671⟩ := own_callS X519 hx hZ hown (y := Y1) (ww hw 1 rfl) (ww hw 2 rfl) (ww hw 3 rfl) (ww hw 4 rfl) (by decide) 0 (rm1_6 l Z a0 hw [] q2 cs T519.heap n0 f519_261 f519_263   ncs ) (by decide) (by decide) rfl (by decide) (by decide) (g := (mkF m 40 (Sh15 q1 q2 q3 q4 q5 3 1 b519_e0) [(.int q2), (.int 1)])) rfl (by rw [hml]; rfl) (argsL := [(.int (1 : Int32)), (.int q2)]) (rest := []) (lenOf pd_28II29Ljava2flang2fString3b rfl) rfl (by show 2 * 0 + _ ≤ _; exact Nat.le_of_eq rfl) (hb hby at_40)
    obtain ⟨b671_e0, b671_e1, k671_ke1, rfl, N671q, K671, p671_0, p671_1, p671_2, p671_3, hz_b671_e0, hz_b671_e1⟩ := hQ671
    have N671 := Fr.app N519 N671q
    have f671_292 := Nat.le_trans f519_261 K671.1
    have f671_294 := own_staK0 f519_263 K671
    have f671_295 := own_staK0 f519_264 K671
    have f671_296 := Nat.le_trans f519_265 K671.1
    have f671_297 := p519_0.keep K671
    have f671_298 := p519_1.keep K671 nin0
    have f671_299 := p519_2.keep K671 nin0
    have f671_300 := p519_3.keep K671 nin0
    refine GoV.sg (mkF m 43 (Sh15 q1 q2 q3 q4 q5 3 1 b519_e0) [(.ref b671_e0)]) (fun t k => st671 t k) ?_
    refine GoV.sg (mkF m 45 (Sh16 q1 q2 q3 q4 q5 3 1 b519_e0 b671_e0) []) (fun t k => XS.astore X671.here hx rfl (hb hby at_43) rfl rfl (l' := (Sh16 q1 q2 q3 q4 q5 3 1 b519_e0 b671_e0)) rfl k) ?_
    obtain ⟨T672, h672, X672, e672, E672, A672, D672, -, st672⟩ := newO X671 hx hZ hown (ww hw 35 rfl) (ww hw 36 rfl) (ww hw 37 rfl) rfl (g := (mkF m 45 (Sh16 q1 q2 q3 q4 q5 3 1 b519_e0 b671_e0) [])) rfl (hb hby at_45) (by decide) (by decide)
    obtain ⟨b672, g672⟩ : ∃ z, z = T671.heap.size := ⟨_, rfl⟩
    rw [← g672] at A672 D672 st672
    have g_b672 : n0 ≤ b672 := Nat.le_trans f671_292 (Nat.le_of_eq g672.symm)
    have ne_b519_e0_b672 : b519_e0 ≠ b672 := Nat.ne_of_lt (Nat.lt_of_lt_of_eq f671_297.lt g672.symm)
    have ne_b519_e1_b672 : b519_e1 ≠ b672 := Nat.ne_of_lt (Nat.lt_of_lt_of_eq f671_300.lt g672.symm)
    have f672_303 := f671_294.ext E672
    have f672_304 := f671_295.ext E672
    have f672_305 := Nat.le_trans f671_296 E672.1
    have f672_306 := f671_297.ext E672
    have f672_307 := f671_298.ext E672
    have f672_308 := f671_299.ext E672
    have f672_309 := f671_300.ext E672
    have F672name : Fld Z h672 b672 "com/example/relaystack/relaystack/CommandLine$Option" "name" "Ljava/lang/String;" .null := D672 (Or.inr (ww hw 48 rfl)) (ty := (.object "java/lang/String")) (by decide)
    have F672given : Fld Z h672 b672 "com/example/relaystack/relaystack/CommandLine$Option" "given" "Ljava/lang/String;" .null := D672 (Or.inr (ww hw 50 rfl)) (ty := (.object "java/lang/String")) (by decide)
    refine GoV.sg (mkF m 48 (Sh16 q1 q2 q3 q4 q5 3 1 b519_e0 b671_e0) [(.ref b672)]) (fun t k => st672 t k) ?_
    refine GoV.sg (mkF m 49 (Sh16 q1 q2 q3 q4 q5 3 1 b519_e0 b671_e0) [(.ref b672), (.ref b672)]) (fun t k => XS.dup X672.here hx rfl (hb hby at_48) rfl rfl k) ?_
    refine GoV.sg (mkF m 51 (Sh16 q1 q2 q3 q4 q5 3 1 b519_e0 b671_e0) [(.ref b671_e0), (.ref b672), (.ref b672)]) (fun t k => XS.aload X672.here hx rfl (hb hby at_49) rfl rfl k) ?_
    refine GoV.sg (mkF m 53 (Sh16 q1 q2 q3 q4 q5 3 1 b519_e0 b671_e0) [(.ref b519_e0), (.ref b671_e0), (.ref b672), (.ref b672)]) (fun t k => XS.aload X672.here hx rfl (hb hby at_51) rfl rfl k) ?_
    obtain ⟨_, _, ⟨T676, L676, k676, n676⟩, -, X676, ⟨Lc676, hQ676, l676, y676, z676⟩, st676⟩ := X672.specialBack hx (y := Y8) rfl hown (mvT hZ (ww hw 38 rfl)) (mvT hZ (ww hw 39 rfl)) (mvT hZ (ww hw 40 rfl)) (by decide) (backOf (W := 1) (rm8_8 l Z a0 hw [] b672 b671_e0 b519_e0  h672 n0  A672 F672given F672name g_b672   ) hZ (ww hw 40 rfl) (ww hw 37 rfl) (by decide) (by decide)) (g := (mkF m 53 (Sh16 q1 q2 q3 q4 q5 3 1 b519_e0 b671_e0) [(.ref b519_e0), (.ref b671_e0), (.ref b672), (.ref b672)])) rfl (by rw [hml]; rfl) (Steps.refl _) (a := b672) (argsL := [(.ref b671_e0), (.ref b519_e0)]) (rest := [(.ref b672)]) (lenOf pd_28Ljava2flang2fString3bLjava2flang2fString3b29V rfl) rfl (by show 2 * 0 + _ ≤ _; exact Nat.le_of_eq rfl) (hb hby at_53) (fun _ _ => ⟨rfl, e672, (by decide : 7 + 0 ≤ _), (by decide : 18 + 0 ≤ _)⟩)
    dsimp only [Pt.U, Pt.locs, Pt.cells, Pt.slots] at X676 l676 y676 z676 st676 hQ676
    subst l676 y676 z676
    obtain ⟨rfl, N676q, K676, p676_0, p676_1, p676_2⟩ := hQ676
    have N676 := Fr.app N671 N676q
    have f676_312 := own_staK f672_303 K676 (allS (own_nsE A672) all0)
    have f676_313 := own_staK f672_304 K676 (allS (own_nsE A672) all0)
    have f676_314 := Nat.le_trans f672_305 K676.1
    have f676_315 := f672_306.keep K676
    have f676_316 := f672_307.keep K676 (ninS ne_b519_e0_b672 nin0)
    have f676_317 := f672_308.keep K676 (ninS ne_b519_e0_b672 nin0)
    have f676_318 := f672_309.keep K676 (ninS ne_b519_e1_b672 nin0)
    refine GoV.sg (mkF m 56 (Sh16 q1 q2 q3 q4 q5 3 1 b519_e0 b671_e0) [(.ref b672)]) (fun t k => st676.trans k) ?_
    refine GoV.sg (mkF m 58 (Sh18 q1 q2 q3 q4 q5 3 1 b519_e0 b671_e0 b672) []) (fun t k => XS.astore X676.here hx rfl (hb hby at_56) rfl rfl (l' := (Sh18 q1 q2 q3 q4 q5 3 1 b519_e0 b671_e0 b672)) rfl k) ?_
    refine GoV.sg (mkF m 60 (Sh18 q1 q2 q3 q4 q5 3 1 b519_e0 b671_e0 b672) [(.ref b672)]) (fun t k => XS.aload X676.here hx rfl (hb hby at_58) rfl rfl k) ?_
    obtain ⟨cq681, kq681, q681a, q681b, q681c⟩ := isOf hZ rfl p676_0
    obtain ⟨_, _, ⟨T681, L681, k681, n681⟩, -, X681, ⟨Lc681, hQ681, l681, y681, z681⟩, st681⟩ := X676.virtualBack hx (y := Y10) (z := Y10) hown (mvT hZ (ww hw 51 rfl)) (mvT hZ (ww hw 52 rfl)) (notFace_of_selects (args := #[]) (mvT hZ (ww hw 54 rfl))) (mvT hZ (ww hw 54 rfl)) (mvT hZ (ww hw 53 rfl)) (by decide) (backOf (W := 0) (rm10_55 l Z a0 hw [] b672 b519_e0 b519_e1 k519_ke1 (lat8 (chA q1)) (lat8 (chB q1)) (lat8 (chC q1)) T676.heap n0  f676_315 p676_1 f676_317 f676_318    ) hZ (ww hw 55 rfl) (ww hw 37 rfl) (by decide) (by decide)) q681a q681c (g := (mkF m 60 (Sh18 q1 q2 q3 q4 q5 3 1 b519_e0 b671_e0 b672) [(.ref b672)])) rfl (by rw [hml]; rfl) (Steps.refl _) (argsL := []) (rest := []) (lenOf pd_2829Ljava2flang2fString3b rfl) rfl (by show 2 * 0 + _ ≤ _; exact Nat.le_of_eq rfl) (hb hby at_60) (fun _ _ => ⟨rfl, rfl, (by decide : 7 + 0 ≤ _), (by decide : 18 + 0 ≤ _)⟩)
    dsimp only [Pt.U, Pt.locs, Pt.cells, Pt.slots] at X681 l681 y681 z681 st681 hQ681
    subst l681 y681 z681
    obtain ⟨rfl, N681q, e681⟩ := hQ681
    have N681 := Fr.app N676 N681q
    refine GoV.sg (mkF m 63 (Sh18 q1 q2 q3 q4 q5 3 1 b519_e0 b671_e0 b672) [(.ref b519_e0)]) (fun t k => st681.trans k) ?_
    refine GoV.sg (mkF m 65 (Sh19 q1 q2 q3 q4 q5 3 1 b519_e0 b671_e0 b672 b519_e0) []) (fun t k => XS.astore X681.here hx rfl (hb hby at_63) rfl rfl (l' := (Sh19 q1 q2 q3 q4 q5 3 1 b519_e0 b671_e0 b672 b519_e0)) rfl k) ?_
    refine GoV.sg (mkF m 67 (Sh19 q1 q2 q3 q4 q5 3 1 b519_e0 b671_e0 b672 b519_e0) [(.ref b519_e0)]) (fun t k => XS.aload X681.here hx rfl (hb hby at_65) rfl rfl k) ?_
    refine GoV.sg (mkF m 69 (Sh19 q1 q2 q3 q4 q5 3 1 b519_e0 b671_e0 b672 b519_e0) [(.ref b519_e0), (.ref b519_e0)]) (fun t k => XS.aload X681.here hx rfl (hb hby at_67) rfl rfl k) ?_
    refine GoV.sg (mkF m 74 (Sh19 q1 q2 q3 q4 q5 3 1 b519_e0 b671_e0 b672 b519_e0) []) (fun t k => Jvm.RoadKit.acmp X681 hx rfl (cd := .eq) (x := (.ref b519_e0)) (y := (.ref b519_e0)) rfl rfl (pc0 := 69) (pc' := 74) (same := true) rfl (hb hby at_69) rfl (decide_eq_true rfl) (by decide) (by decide) k) ?_
    refine GoV.sg (mkF m 76 (Sh19 q1 q2 q3 q4 q5 3 1 b519_e0 b671_e0 b672 b519_e0) [(.ref b519_e0)]) (fun t k => XS.aload X681.here hx rfl (hb hby at_74) rfl rfl k) ?_
    obtain ⟨cq682, kq682, q682a, q682b, q682c⟩ := isOf hZ e681 f676_315
    obtain ⟨_, _, ⟨T682, L682, k682, n682⟩, -, X682, ⟨Lc682, hQ682, l682, y682, z682⟩, st682⟩ := X681.virtualBack hx (y := Y12) (z := Y12) hown (mvT hZ (ww hw 61 rfl)) (mvT hZ (ww hw 62 rfl)) (notFace_of_selects (args := #[]) (mvT hZ (ww hw 64 rfl))) (mvT hZ (ww hw 64 rfl)) (mvT hZ (ww hw 63 rfl)) (by decide) (backOf (W := 0) (rm12_56 l Z a0 hw [] b519_e0 b519_e1 k519_ke1 (lat8 (chA q1)) (lat8 (chB q1)) (lat8 (chC q1)) cs T676.heap n0  f676_315 f676_316 f676_317 f676_318 f676_312   ncs ) hZ (ww hw 65 rfl) (ww hw 7 rfl) (by decide) (by decide)) q682a q682c (g := (mkF m 76 (Sh19 q1 q2 q3 q4 q5 3 1 b519_e0 b671_e0 b672 b519_e0) [(.ref b519_e0)])) rfl (by rw [hml]; rfl) (Steps.refl _) (argsL := []) (rest := []) (lenOf pd_2829I rfl) rfl (by show 2 * 0 + _ ≤ _; exact Nat.le_of_eq rfl) (hb hby at_76) (fun _ _ => ⟨rfl, e681, (by decide : 7 + 0 ≤ _), (by decide : 18 + 0 ≤ _)⟩)
    dsimp only [Pt.U, Pt.locs, Pt.cells, Pt.slots] at X682 l682 y682 z682 st682 hQ682
    subst l682 y682 z682
    obtain ⟨rfl, N682q, e682⟩ := hQ682
    have N682 := Fr.app N681 N682q
    refine GoV.sg (mkF m 79 (Sh19 q1 q2 q3 q4 q5 3 1 b519_e0 b671_e0 b672 b519_e0) [(.int 3)]) (fun t k => st682.trans k) ?_
    refine GoV.sg (mkF m 81 (Sh19 q1 q2 q3 q4 q5 3 1 b519_e0 b671_e0 b672 b519_e0) [(.int 3), (.int 3)]) (fun t k => XS.iload X682.here hx rfl (hb hby at_79) rfl k) ?_
    refine GoV.sg (mkF m 86 (Sh19 q1 q2 q3 q4 q5 3 1 b519_e0 b671_e0 b672 b519_e0) []) (fun t k => XS.icmpYes X682.here hx rfl (pc0 := 81) (pc' := 86) rfl (hb hby at_81) rfl (by decide) (by decide) (by decide) k) ?_
    rcases ref_cases hvf with rfl | ⟨af, rfl⟩
    ·show GoV p e below s (ValQ (.int (1 : Int32)) n0) room_1.cells room_1.slots (T682.setTop (mkF m 86 (Sh19 q1 q2 q3 q4 q5 3 1 b519_e0 b671_e0 b672 b519_e0) []))
     refine GoV.sg (mkF m 88 (Sh19 q1 q2 q3 q4 q5 3 1 b519_e0 b671_e0 b672 b519_e0) [(.ref b519_e0)]) (fun t k => XS.aload X682.here hx rfl (hb hby at_86) rfl rfl k) ?_
     refine GoV.sg (mkF m 89 (Sh19 q1 q2 q3 q4 q5 3 1 b519_e0 b671_e0 b672 b519_e0) [(.int 0), (.ref b519_e0)]) (fun t k => XS.iconst X682.here hx rfl (hb hby at_88) k) ?_
     obtain ⟨cq683, kq683, q683a, q683b, q683c⟩ := isOf hZ e682 f676_315
     obtain ⟨_, _, ⟨T683, L683, k683, n683⟩, -, X683, ⟨Lc683, hQ683, l683, y683, z683⟩, st683⟩ := X682.virtualBack hx (y := Y14) (z := Y14) hown (mvT hZ (ww hw 71 rfl)) (mvT hZ (ww hw 72 rfl)) (notFace_of_selects (args := #[]) (mvT hZ (ww hw 74 rfl))) (mvT hZ (ww hw 74 rfl)) (mvT hZ (ww hw 73 rfl)) (by decide) (backOf (W := 0) (rm14_60 l Z a0 hw [] b519_e0 b519_e1 k519_ke1 (lat8 (chA q1)) (lat8 (chB q1)) (lat8 (chC q1)) cs T676.heap n0  f676_315 f676_316 f676_317 f676_318 f676_312 f676_313   ncs ) hZ (ww hw 75 rfl) (ww hw 7 rfl) (by decide) (by decide)) q683a q683c (g := (mkF m 89 (Sh19 q1 q2 q3 q4 q5 3 1 b519_e0 b671_e0 b672 b519_e0) [(.int 0), (.ref b519_e0)])) rfl (by rw [hml]; rfl) (Steps.refl _) (argsL := [(.int (0 : Int32))]) (rest := []) (lenOf pd_28I29C rfl) rfl (by show 2 * 0 + _ ≤ _; exact Nat.le_of_eq rfl) (hb hby at_89) (fun _ _ => ⟨rfl, e682, (by decide : 7 + 0 ≤ _), (by decide : 18 + 0 ≤ _)⟩)
     dsimp only [Pt.U, Pt.locs, Pt.cells, Pt.slots] at X683 l683 y683 z683 st683 hQ683
     subst l683 y683 z683
     obtain ⟨rfl, N683q, e683⟩ := hQ683
     have N683 := Fr.app N682 N683q
     refine GoV.sg (mkF m 92 (Sh19 q1 q2 q3 q4 q5 3 1 b519_e0 b671_e0 b672 b519_e0) [(.int (nar .char (nar .char ((lat8 (chA q1)) &&& (255 : Int32)).toUInt32.toUInt16.toUInt32.toInt32)))]) (fun t k => st683.trans k) ?_
     rw [show (nar .char (nar .char ((lat8 (chA q1)) &&& (255 : Int32)).toUInt32.toUInt16.toUInt32.toInt32)) = (chA q1) from (own_back _ (own_rA q1))]
     refine GoV.sg (mkF m 93 (Sh19 q1 q2 q3 q4 q5 3 1 b519_e0 b671_e0 b672 b519_e0) [(.int q1), (.int (chA q1))]) (fun t k => XS.iloadN X683.here hx rfl (hb hby at_92) rfl k) ?_
     refine GoV.sg (mkF m 96 (Sh19 q1 q2 q3 q4 q5 3 1 b519_e0 b671_e0 b672 b519_e0) [(.int 255), (.int q1), (.int (chA q1))]) (fun t k => XS.sipush X683.here hx rfl (hb hby at_93) k) ?_
     refine GoV.sg (mkF m 97 (Sh19 q1 q2 q3 q4 q5 3 1 b519_e0 b671_e0 b672 b519_e0) [(.int (q1 &&& (255 : Int32))), (.int (chA q1))]) (fun t k => XS.iand X683.here hx rfl (hb hby at_96) rfl k) ?_
     refine GoV.sg (mkF m 98 (Sh19 q1 q2 q3 q4 q5 3 1 b519_e0 b671_e0 b672 b519_e0) [(.int (q1 &&& (255 : Int32)).toUInt32.toUInt16.toUInt32.toInt32), (.int (chA q1))]) (fun t k => XS.i2c X683.here hx rfl (hb hby at_97) rfl k) ?_
     rw [own_cA q1]
     show GoV p e below s (ValQ (.int (1 : Int32)) n0) room_1.cells room_1.slots (T683.setTop (mkF m 98 (Sh19 q1 q2 q3 q4 q5 3 1 b519_e0 b671_e0 b672 b519_e0) [(.int (chA q1)), (.int (chA q1))]))
     refine GoV.sg (mkF m 103 (Sh19 q1 q2 q3 q4 q5 3 1 b519_e0 b671_e0 b672 b519_e0) []) (fun t k => XS.icmpYes X683.here hx rfl (pc0 := 98) (pc' := 103) rfl (hb hby at_98) rfl (teq rfl).1 (by decide) (by decide) k) ?_
     refine GoV.sg (mkF m 105 (Sh19 q1 q2 q3 q4 q5 3 1 b519_e0 b671_e0 b672 b519_e0) [(.int 3)]) (fun t k => XS.iload X683.here hx rfl (hb hby at_103) rfl k) ?_
     refine GoV.sg (mkF m 106 (Sh19 q1 q2 q3 q4 q5 3 1 b519_e0 b671_e0 b672 b519_e0) [(.int 2), (.int 3)]) (fun t k => XS.iconst X683.here hx rfl (hb hby at_105) k) ?_
     refine GoV.sg (mkF m 109 (Sh19 q1 q2 q3 q4 q5 3 1 b519_e0 b671_e0 b672 b519_e0) []) (fun t k => XS.icmpNo X683.here hx rfl (hb hby at_106) rfl (by decide) k) ?_
     refine GoV.sg (mkF m 111 (Sh19 q1 q2 q3 q4 q5 3 1 b519_e0 b671_e0 b672 b519_e0) [(.ref b519_e0)]) (fun t k => XS.aload X683.here hx rfl (hb hby at_109) rfl rfl k) ?_
     refine GoV.sg (mkF m 112 (Sh19 q1 q2 q3 q4 q5 3 1 b519_e0 b671_e0 b672 b519_e0) [(.int 1), (.ref b519_e0)]) (fun t k => XS.iconst X683.here hx rfl (hb hby at_111) k) ?_
     obtain ⟨cq684, kq684, q684a, q684b, q684c⟩ := isOf hZ e683 f676_315
     obtain ⟨_, _, ⟨T684, L684, k684, n684⟩, -, X684, ⟨Lc684, hQ684, l684, y684, z684⟩, st684⟩ := X683.virtualBack hx (y := Y14) (z := Y14) hown (mvT hZ (ww hw 71 rfl)) (mvT hZ (ww hw 72 rfl)) (notFace_of_selects (args := #[]) (mvT hZ (ww hw 74 rfl))) (mvT hZ (ww hw 74 rfl)) (mvT hZ (ww hw 73 rfl)) (by decide) (backOf (W := 0) (rm14_64 l Z a0 hw [] b519_e0 b519_e1 k519_ke1 (lat8 (chA q1)) (lat8 (chB q1)) (lat8 (chC q1)) cs T676.heap n0  f676_315 f676_316 f676_317 f676_318 f676_312 f676_313   ncs ) hZ (ww hw 75 rfl) (ww hw 7 rfl) (by decide) (by decide)) q684a q684c (g := (mkF m 112 (Sh19 q1 q2 q3 q4 q5 3 1 b519_e0 b671_e0 b672 b519_e0) [(.int 1), (.ref b519_e0)])) rfl (by rw [hml]; rfl) (Steps.refl _) (argsL := [(.int (1 : Int32))]) (rest := []) (lenOf pd_28I29C rfl) rfl (by show 2 * 0 + _ ≤ _; exact Nat.le_of_eq rfl) (hb hby at_112) (fun _ _ => ⟨rfl, e683, (by decide : 7 + 0 ≤ _), (by decide : 18 + 0 ≤ _)⟩)
     dsimp only [Pt.U, Pt.locs, Pt.cells, Pt.slots] at X684 l684 y684 z684 st684 hQ684
     subst l684 y684 z684
     obtain ⟨rfl, N684q, e684⟩ := hQ684
     have N684 := Fr.app N683 N684q
     refine GoV.sg (mkF m 115 (Sh19 q1 q2 q3 q4 q5 3 1 b519_e0 b671_e0 b672 b519_e0) [(.int (nar .char (nar .char ((lat8 (chB q1)) &&& (255 : Int32)).toUInt32.toUInt16.toUInt32.toInt32)))]) (fun t k => st684.trans k) ?_
     rw [show (nar .char (nar .char ((lat8 (chB q1)) &&& (255 : Int32)).toUInt32.toUInt16.toUInt32.toInt32)) = (chB q1) from (own_back _ (own_rB q1))]
     refine GoV.sg (mkF m 116 (Sh19 q1 q2 q3 q4 q5 3 1 b519_e0 b671_e0 b672 b519_e0) [(.int q1), (.int (chB q1))]) (fun t k => XS.iloadN X684.here hx rfl (hb hby at_115) rfl k) ?_
     refine GoV.sg (mkF m 118 (Sh19 q1 q2 q3 q4 q5 3 1 b519_e0 b671_e0 b672 b519_e0) [(.int 8), (.int q1), (.int (chB q1))]) (fun t k => XS.bipush X684.here hx rfl (hb hby at_116) k) ?_
     refine GoV.sg (mkF m 119 (Sh19 q1 q2 q3 q4 q5 3 1 b519_e0 b671_e0 b672 b519_e0) [(.int (q1.toUInt32 >>> ((8 : Int32) &&& 31).toUInt32).toInt32), (.int (chB q1))]) (fun t k => XS.iushr X684.here hx rfl (hb hby at_118) rfl k) ?_
     refine GoV.sg (mkF m 122 (Sh19 q1 q2 q3 q4 q5 3 1 b519_e0 b671_e0 b672 b519_e0) [(.int 255), (.int (q1.toUInt32 >>> ((8 : Int32) &&& 31).toUInt32).toInt32), (.int (chB q1))]) (fun t k => XS.sipush X684.here hx rfl (hb hby at_119) k) ?_
     refine GoV.sg (mkF m 123 (Sh19 q1 q2 q3 q4 q5 3 1 b519_e0 b671_e0 b672 b519_e0) [(.int ((q1.toUInt32 >>> ((8 : Int32) &&& 31).toUInt32).toInt32 &&& (255 : Int32))), (.int (chB q1))]) (fun t k => XS.iand X684.here hx rfl (hb hby at_122) rfl k) ?_
     refine GoV.sg (mkF m 124 (Sh19 q1 q2 q3 q4 q5 3 1 b519_e0 b671_e0 b672 b519_e0) [(.int ((q1.toUInt32 >>> ((8 : Int32) &&& 31).toUInt32).toInt32 &&& (255 : Int32)).toUInt32.toUInt16.toUInt32.toInt32), (.int (chB q1))]) (fun t k => XS.i2c X684.here hx rfl (hb hby at_123) rfl k) ?_
     rw [own_cB q1]
     show GoV p e below s (ValQ (.int (1 : Int32)) n0) room_1.cells room_1.slots (T684.setTop (mkF m 124 (Sh19 q1 q2 q3 q4 q5 3 1 b519_e0 b671_e0 b672 b519_e0) [(.int (chB q1)), (.int (chB q1))]))
     refine GoV.sg (mkF m 129 (Sh19 q1 q2 q3 q4 q5 3 1 b519_e0 b671_e0 b672 b519_e0) []) (fun t k => XS.icmpYes X684.here hx rfl (pc0 := 124) (pc' := 129) rfl (hb hby at_124) rfl (teq rfl).1 (by decide) (by decide) k) ?_
     refine GoV.sg (mkF m 131 (Sh19 q1 q2 q3 q4 q5 3 1 b519_e0 b671_e0 b672 b519_e0) [(.int 3)]) (fun t k => XS.iload X684.here hx rfl (hb hby at_129) rfl k) ?_
     refine GoV.sg (mkF m 132 (Sh19 q1 q2 q3 q4 q5 3 1 b519_e0 b671_e0 b672 b519_e0) [(.int 3), (.int 3)]) (fun t k => XS.iconst X684.here hx rfl (hb hby at_131) k) ?_
     refine GoV.sg (mkF m 135 (Sh19 q1 q2 q3 q4 q5 3 1 b519_e0 b671_e0 b672 b519_e0) []) (fun t k => XS.icmpNo X684.here hx rfl (hb hby at_132) rfl (by decide) k) ?_
     refine GoV.sg (mkF m 137 (Sh19 q1 q2 q3 q4 q5 3 1 b519_e0 b671_e0 b672 b519_e0) [(.ref b519_e0)]) (fun t k => XS.aload X684.here hx rfl (hb hby at_135) rfl rfl k) ?_
     refine GoV.sg (mkF m 138 (Sh19 q1 q2 q3 q4 q5 3 1 b519_e0 b671_e0 b672 b519_e0) [(.int 2), (.ref b519_e0)]) (fun t k => XS.iconst X684.here hx rfl (hb hby at_137) k) ?_
     obtain ⟨cq685, kq685, q685a, q685b, q685c⟩ := isOf hZ e684 f676_315
     obtain ⟨_, _, ⟨T685, L685, k685, n685⟩, -, X685, ⟨Lc685, hQ685, l685, y685, z685⟩, st685⟩ := X684.virtualBack hx (y := Y14) (z := Y14) hown (mvT hZ (ww hw 71 rfl)) (mvT hZ (ww hw 72 rfl)) (notFace_of_selects (args := #[]) (mvT hZ (ww hw 74 rfl))) (mvT hZ (ww hw 74 rfl)) (mvT hZ (ww hw 73 rfl)) (by decide) (backOf (W := 0) (rm14_68 l Z a0 hw [] b519_e0 b519_e1 k519_ke1 (lat8 (chA q1)) (lat8 (chB q1)) (lat8 (chC q1)) cs T676.heap n0  f676_315 f676_316 f676_317 f676_318 f676_312 f676_313   ncs ) hZ (ww hw 75 rfl) (ww hw 7 rfl) (by decide) (by decide)) q685a q685c (g := (mkF m 138 (Sh19 q1 q2 q3 q4 q5 3 1 b519_e0 b671_e0 b672 b519_e0) [(.int 2), (.ref b519_e0)])) rfl (by rw [hml]; rfl) (Steps.refl _) (argsL := [(.int (2 : Int32))]) (rest := []) (lenOf pd_28I29C rfl) rfl (by show 2 * 0 + _ ≤ _; exact Nat.le_of_eq rfl) (hb hby at_138) (fun _ _ => ⟨rfl, e684, (by decide : 7 + 0 ≤ _), (by decide : 18 + 0 ≤ _)⟩)
     dsimp only [Pt.U, Pt.locs, Pt.cells, Pt.slots] at X685 l685 y685 z685 st685 hQ685
     subst l685 y685 z685
     obtain ⟨rfl, N685q, e685⟩ := hQ685
     have N685 := Fr.app N684 N685q
     refine GoV.sg (mkF m 141 (Sh19 q1 q2 q3 q4 q5 3 1 b519_e0 b671_e0 b672 b519_e0) [(.int (nar .char (nar .char ((lat8 (chC q1)) &&& (255 : Int32)).toUInt32.toUInt16.toUInt32.toInt32)))]) (fun t k => st685.trans k) ?_
     rw [show (nar .char (nar .char ((lat8 (chC q1)) &&& (255 : Int32)).toUInt32.toUInt16.toUInt32.toInt32)) = (chC q1) from (own_back _ (own_rC q1))]
     refine GoV.sg (mkF m 142 (Sh19 q1 q2 q3 q4 q5 3 1 b519_e0 b671_e0 b672 b519_e0) [(.int q1), (.int (chC q1))]) (fun t k => XS.iloadN X685.here hx rfl (hb hby at_141) rfl k) ?_
     refine GoV.sg (mkF m 144 (Sh19 q1 q2 q3 q4 q5 3 1 b519_e0 b671_e0 b672 b519_e0) [(.int 16), (.int q1), (.int (chC q1))]) (fun t k => XS.bipush X685.here hx rfl (hb hby at_142) k) ?_
     refine GoV.sg (mkF m 145 (Sh19 q1 q2 q3 q4 q5 3 1 b519_e0 b671_e0 b672 b519_e0) [(.int (q1.toUInt32 >>> ((16 : Int32) &&& 31).toUInt32).toInt32), (.int (chC q1))]) (fun t k => XS.iushr X685.here hx rfl (hb hby at_144) rfl k) ?_
     refine GoV.sg (mkF m 148 (Sh19 q1 q2 q3 q4 q5 3 1 b519_e0 b671_e0 b672 b519_e0) [(.int 255), (.int (q1.toUInt32 >>> ((16 : Int32) &&& 31).toUInt32).toInt32), (.int (chC q1))]) (fun t k => XS.sipush X685.here hx rfl (hb hby at_145) k) ?_
     refine GoV.sg (mkF m 149 (Sh19 q1 q2 q3 q4 q5 3 1 b519_e0 b671_e0 b672 b519_e0) [(.int ((q1.toUInt32 >>> ((16 : Int32) &&& 31).toUInt32).toInt32 &&& (255 : Int32))), (.int (chC q1))]) (fun t k => XS.iand X685.here hx rfl (hb hby at_148) rfl k) ?_
     refine GoV.sg (mkF m 150 (Sh19 q1 q2 q3 q4 q5 3 1 b519_e0 b671_e0 b672 b519_e0) [(.int ((q1.toUInt32 >>> ((16 : Int32) &&& 31).toUInt32).toInt32 &&& (255 : Int32)).toUInt32.toUInt16.toUInt32.toInt32), (.int (chC q1))]) (fun t k => XS.i2c X685.here hx rfl (hb hby at_149) rfl k) ?_
     rw [own_cC q1]
     show GoV p e below s (ValQ (.int (1 : Int32)) n0) room_1.cells room_1.slots (T685.setTop (mkF m 150 (Sh19 q1 q2 q3 q4 q5 3 1 b519_e0 b671_e0 b672 b519_e0) [(.int (chC q1)), (.int (chC q1))]))
     refine GoV.sg (mkF m 155 (Sh19 q1 q2 q3 q4 q5 3 1 b519_e0 b671_e0 b672 b519_e0) []) (fun t k => XS.icmpYes X685.here hx rfl (pc0 := 150) (pc' := 155) rfl (hb hby at_150) rfl (teq rfl).1 (by decide) (by decide) k) ?_
     refine GoV.sg (mkF m 156 (Sh19 q1 q2 q3 q4 q5 3 1 b519_e0 b671_e0 b672 b519_e0) [(.int 1)]) (fun t k => XS.iconst X685.here hx rfl (hb hby at_155) k) ?_
     refine GoV.retN X685 hS0 (by rw [e685]; exact f676_314) hx (t := .boolean) Bd.returns (by simp) (hb hby at_156) Bd.notSynchronized ?_ (by decide) (by decide)
     exact ⟨rfl, N685⟩
    ·show GoV p e below s (ValQ (.int (1 : Int32)) n0) room_1.cells room_1.slots (T682.setTop (mkF m 86 (Sh19 q1 q2 q3 q4 q5 3 1 b519_e0 b671_e0 b672 b519_e0) []))
     refine GoV.sg (mkF m 88 (Sh19 q1 q2 q3 q4 q5 3 1 b519_e0 b671_e0 b672 b519_e0) [(.ref b519_e0)]) (fun t k => XS.aload X682.here hx rfl (hb hby at_86) rfl rfl k) ?_
     refine GoV.sg (mkF m 89 (Sh19 q1 q2 q3 q4 q5 3 1 b519_e0 b671_e0 b672 b519_e0) [(.int 0), (.ref b519_e0)]) (fun t k => XS.iconst X682.here hx rfl (hb hby at_88) k) ?_
     obtain ⟨cq686, kq686, q686a, q686b, q686c⟩ := isOf hZ e682 f676_315
     obtain ⟨_, _, ⟨T686, L686, k686, n686⟩, -, X686, ⟨Lc686, hQ686, l686, y686, z686⟩, st686⟩ := X682.virtualBack hx (y := Y14) (z := Y14) hown (mvT hZ (ww hw 71 rfl)) (mvT hZ (ww hw 72 rfl)) (notFace_of_selects (args := #[]) (mvT hZ (ww hw 74 rfl))) (mvT hZ (ww hw 74 rfl)) (mvT hZ (ww hw 73 rfl)) (by decide) (backOf (W := 0) (rm14_72 l Z a0 hw [] b519_e0 b519_e1 k519_ke1 (lat8 (chA q1)) (lat8 (chB q1)) (lat8 (chC q1)) cs af T676.heap n0  f676_315 f676_316 f676_317 f676_318 f676_312 f676_313   ncs ) hZ (ww hw 75 rfl) (ww hw 7 rfl) (by decide) (by decide)) q686a q686c (g := (mkF m 89 (Sh19 q1 q2 q3 q4 q5 3 1 b519_e0 b671_e0 b672 b519_e0) [(.int 0), (.ref b519_e0)])) rfl (by rw [hml]; rfl) (Steps.refl _) (argsL := [(.int (0 : Int32))]) (rest := []) (lenOf pd_28I29C rfl) rfl (by show 2 * 0 + _ ≤ _; exact Nat.le_of_eq rfl) (hb hby at_89) (fun _ _ => ⟨rfl, e682, (by decide : 7 + 0 ≤ _), (by decide : 18 + 0 ≤ _)⟩)
     dsimp only [Pt.U, Pt.locs, Pt.cells, Pt.slots] at X686 l686 y686 z686 st686 hQ686
     subst l686 y686 z686
     obtain ⟨rfl, N686q, e686⟩ := hQ686
     have N686 := Fr.app N682 N686q
     refine GoV.sg (mkF m 92 (Sh19 q1 q2 q3 q4 q5 3 1 b519_e0 b671_e0 b672 b519_e0) [(.int (nar .char (nar .char ((lat8 (chA q1)) &&& (255 : Int32)).toUInt32.toUInt16.toUInt32.toInt32)))]) (fun t k => st686.trans k) ?_
     rw [show (nar .char (nar .char ((lat8 (chA q1)) &&& (255 : Int32)).toUInt32.toUInt16.toUInt32.toInt32)) = (chA q1) from (own_back _ (own_rA q1))]
     refine GoV.sg (mkF m 93 (Sh19 q1 q2 q3 q4 q5 3 1 b519_e0 b671_e0 b672 b519_e0) [(.int q1), (.int (chA q1))]) (fun t k => XS.iloadN X686.here hx rfl (hb hby at_92) rfl k) ?_
     refine GoV.sg (mkF m 96 (Sh19 q1 q2 q3 q4 q5 3 1 b519_e0 b671_e0 b672 b519_e0) [(.int 255), (.int q1), (.int (chA q1))]) (fun t k => XS.sipush X686.here hx rfl (hb hby at_93) k) ?_
     refine GoV.sg (mkF m 97 (Sh19 q1 q2 q3 q4 q5 3 1 b519_e0 b671_e0 b672 b519_e0) [(.int (q1 &&& (255 : Int32))), (.int (chA q1))]) (fun t k => XS.iand X686.here hx rfl (hb hby at_96) rfl k) ?_
     refine GoV.sg (mkF m 98 (Sh19 q1 q2 q3 q4 q5 3 1 b519_e0 b671_e0 b672 b519_e0) [(.int (q1 &&& (255 : Int32)).toUInt32.toUInt16.toUInt32.toInt32), (.int (chA q1))]) (fun t k => XS.i2c X686.here hx rfl (hb hby at_97) rfl k) ?_
     rw [own_cA q1]
     show GoV p e below s (ValQ (.int (1 : Int32)) n0) room_1.cells room_1.slots (T686.setTop (mkF m 98 (Sh19 q1 q2 q3 q4 q5 3 1 b519_e0 b671_e0 b672 b519_e0) [(.int (chA q1)), (.int (chA q1))]))
     refine GoV.sg (mkF m 103 (Sh19 q1 q2 q3 q4 q5 3 1 b519_e0 b671_e0 b672 b519_e0) []) (fun t k => XS.icmpYes X686.here hx rfl (pc0 := 98) (pc' := 103) rfl (hb hby at_98) rfl (teq rfl).1 (by decide) (by decide) k) ?_
     refine GoV.sg (mkF m 105 (Sh19 q1 q2 q3 q4 q5 3 1 b519_e0 b671_e0 b672 b519_e0) [(.int 3)]) (fun t k => XS.iload X686.here hx rfl (hb hby at_103) rfl k) ?_
     refine GoV.sg (mkF m 106 (Sh19 q1 q2 q3 q4 q5 3 1 b519_e0 b671_e0 b672 b519_e0) [(.int 2), (.int 3)]) (fun t k => XS.iconst X686.here hx rfl (hb hby at_105) k) ?_
     refine GoV.sg (mkF m 109 (Sh19 q1 q2 q3 q4 q5 3 1 b519_e0 b671_e0 b672 b519_e0) []) (fun t k => XS.icmpNo X686.here hx rfl (hb hby at_106) rfl (by decide) k) ?_
     refine GoV.sg (mkF m 111 (Sh19 q1 q2 q3 q4 q5 3 1 b519_e0 b671_e0 b672 b519_e0) [(.ref b519_e0)]) (fun t k => XS.aload X686.here hx rfl (hb hby at_109) rfl rfl k) ?_
     refine GoV.sg (mkF m 112 (Sh19 q1 q2 q3 q4 q5 3 1 b519_e0 b671_e0 b672 b519_e0) [(.int 1), (.ref b519_e0)]) (fun t k => XS.iconst X686.here hx rfl (hb hby at_111) k) ?_
     obtain ⟨cq687, kq687, q687a, q687b, q687c⟩ := isOf hZ e686 f676_315
     obtain ⟨_, _, ⟨T687, L687, k687, n687⟩, -, X687, ⟨Lc687, hQ687, l687, y687, z687⟩, st687⟩ := X686.virtualBack hx (y := Y14) (z := Y14) hown (mvT hZ (ww hw 71 rfl)) (mvT hZ (ww hw 72 rfl)) (notFace_of_selects (args := #[]) (mvT hZ (ww hw 74 rfl))) (mvT hZ (ww hw 74 rfl)) (mvT hZ (ww hw 73 rfl)) (by decide) (backOf (W := 0) (rm14_76 l Z a0 hw [] b519_e0 b519_e1 k519_ke1 (lat8 (chA q1)) (lat8 (chB q1)) (lat8 (chC q1)) cs af T676.heap n0  f676_315 f676_316 f676_317 f676_318 f676_312 f676_313   ncs ) hZ (ww hw 75 rfl) (ww hw 7 rfl) (by decide) (by decide)) q687a q687c (g := (mkF m 112 (Sh19 q1 q2 q3 q4 q5 3 1 b519_e0 b671_e0 b672 b519_e0) [(.int 1), (.ref b519_e0)])) rfl (by rw [hml]; rfl) (Steps.refl _) (argsL := [(.int (1 : Int32))]) (rest := []) (lenOf pd_28I29C rfl) rfl (by show 2 * 0 + _ ≤ _; exact Nat.le_of_eq rfl) (hb hby at_112) (fun _ _ => ⟨rfl, e686, (by decide : 7 + 0 ≤ _), (by decide : 18 + 0 ≤ _)⟩)
     dsimp only [Pt.U, Pt.locs, Pt.cells, Pt.slots] at X687 l687 y687 z687 st687 hQ687
     subst l687 y687 z687
     obtain ⟨rfl, N687q, e687⟩ := hQ687
     have N687 := Fr.app N686 N687q
     refine GoV.sg (mkF m 115 (Sh19 q1 q2 q3 q4 q5 3 1 b519_e0 b671_e0 b672 b519_e0) [(.int (nar .char (nar .char ((lat8 (chB q1)) &&& (255 : Int32)).toUInt32.toUInt16.toUInt32.toInt32)))]) (fun t k => st687.trans k) ?_
     rw [show (nar .char (nar .char ((lat8 (chB q1)) &&& (255 : Int32)).toUInt32.toUInt16.toUInt32.toInt32)) = (chB q1) from (own_back _ (own_rB q1))]
     refine GoV.sg (mkF m 116 (Sh19 q1 q2 q3 q4 q5 3 1 b519_e0 b671_e0 b672 b519_e0) [(.int q1), (.int (chB q1))]) (fun t k => XS.iloadN X687.here hx rfl (hb hby at_115) rfl k) ?_
     refine GoV.sg (mkF m 118 (Sh19 q1 q2 q3 q4 q5 3 1 b519_e0 b671_e0 b672 b519_e0) [(.int 8), (.int q1), (.int (chB q1))]) (fun t k => XS.bipush X687.here hx rfl (hb hby at_116) k) ?_
     refine GoV.sg (mkF m 119 (Sh19 q1 q2 q3 q4 q5 3 1 b519_e0 b671_e0 b672 b519_e0) [(.int (q1.toUInt32 >>> ((8 : Int32) &&& 31).toUInt32).toInt32), (.int (chB q1))]) (fun t k => XS.iushr X687.here hx rfl (hb hby at_118) rfl k) ?_
     refine GoV.sg (mkF m 122 (Sh19 q1 q2 q3 q4 q5 3 1 b519_e0 b671_e0 b672 b519_e0) [(.int 255), (.int (q1.toUInt32 >>> ((8 : Int32) &&& 31).toUInt32).toInt32), (.int (chB q1))]) (fun t k => XS.sipush X687.here hx rfl (hb hby at_119) k) ?_
     refine GoV.sg (mkF m 123 (Sh19 q1 q2 q3 q4 q5 3 1 b519_e0 b671_e0 b672 b519_e0) [(.int ((q1.toUInt32 >>> ((8 : Int32) &&& 31).toUInt32).toInt32 &&& (255 : Int32))), (.int (chB q1))]) (fun t k => XS.iand X687.here hx rfl (hb hby at_122) rfl k) ?_
     refine GoV.sg (mkF m 124 (Sh19 q1 q2 q3 q4 q5 3 1 b519_e0 b671_e0 b672 b519_e0) [(.int ((q1.toUInt32 >>> ((8 : Int32) &&& 31).toUInt32).toInt32 &&& (255 : Int32)).toUInt32.toUInt16.toUInt32.toInt32), (.int (chB q1))]) (fun t k => XS.i2c X687.here hx rfl (hb hby at_123) rfl k) ?_
     rw [own_cB q1]
     show GoV p e below s (ValQ (.int (1 : Int32)) n0) room_1.cells room_1.slots (T687.setTop (mkF m 124 (Sh19 q1 q2 q3 q4 q5 3 1 b519_e0 b671_e0 b672 b519_e0) [(.int (chB q1)), (.int (chB q1))]))
     refine GoV.sg (mkF m 129 (Sh19 q1 q2 q3 q4 q5 3 1 b519_e0 b671_e0 b672 b519_e0) []) (fun t k => XS.icmpYes X687.here hx rfl (pc0 := 124) (pc' := 129) rfl (hb hby at_124) rfl (teq rfl).1 (by decide) (by decide) k) ?_
     refine GoV.sg (mkF m 131 (Sh19 q1 q2 q3 q4 q5 3 1 b519_e0 b671_e0 b672 b519_e0) [(.int 3)]) (fun t k => XS.iload X687.here hx rfl (hb hby at_129) rfl k) ?_
     refine GoV.sg (mkF m 132 (Sh19 q1 q2 q3 q4 q5 3 1 b519_e0 b671_e0 b672 b519_e0) [(.int 3), (.int 3)]) (fun t k => XS.iconst X687.here hx rfl (hb hby at_131) k) ?_
     refine GoV.sg (mkF m 135 (Sh19 q1 q2 q3 q4 q5 3 1 b519_e0 b671_e0 b672 b519_e0) []) (fun t k => XS.icmpNo X687.here hx rfl (hb hby at_132) rfl (by decide) k) ?_
     refine GoV.sg (mkF m 137 (Sh19 q1 q2 q3 q4 q5 3 1 b519_e0 b671_e0 b672 b519_e0) [(.ref b519_e0)]) (fun t k => XS.aload X687.here hx rfl (hb hby at_135) rfl rfl k) ?_
     refine GoV.sg (mkF m 138 (Sh19 q1 q2 q3 q4 q5 3 1 b519_e0 b671_e0 b672 b519_e0) [(.int 2), (.ref b519_e0)]) (fun t k => XS.iconst X687.here hx rfl (hb hby at_137) k) ?_
     obtain ⟨cq688, kq688, q688a, q688b, q688c⟩ := isOf hZ e687 f676_315
     obtain ⟨_, _, ⟨T688, L688, k688, n688⟩, -, X688, ⟨Lc688, hQ688, l688, y688, z688⟩, st688⟩ := X687.virtualBack hx (y := Y14) (z := Y14) hown (mvT hZ (ww hw 71 rfl)) (mvT hZ (ww hw 72 rfl)) (notFace_of_selects (args := #[]) (mvT hZ (ww hw 74 rfl))) (mvT hZ (ww hw 74 rfl)) (mvT hZ (ww hw 73 rfl)) (by decide) (backOf (W := 0) (rm14_80 l Z a0 hw [] b519_e0 b519_e1 k519_ke1 (lat8 (chA q1)) (lat8 (chB q1)) (lat8 (chC q1)) cs af T676.heap n0  f676_315 f676_316 f676_317 f676_318 f676_312 f676_313   ncs ) hZ (ww hw 75 rfl) (ww hw 7 rfl) (by decide) (by decide)) q688a q688c (g := (mkF m 138 (Sh19 q1 q2 q3 q4 q5 3 1 b519_e0 b671_e0 b672 b519_e0) [(.int 2), (.ref b519_e0)])) rfl (by rw [hml]; rfl) (Steps.refl _) (argsL := [(.int (2 : Int32))]) (rest := []) (lenOf pd_28I29C rfl) rfl (by show 2 * 0 + _ ≤ _; exact Nat.le_of_eq rfl) (hb hby at_138) (fun _ _ => ⟨rfl, e687, (by decide : 7 + 0 ≤ _), (by decide : 18 + 0 ≤ _)⟩)
     dsimp only [Pt.U, Pt.locs, Pt.cells, Pt.slots] at X688 l688 y688 z688 st688 hQ688
     subst l688 y688 z688
     obtain ⟨rfl, N688q, e688⟩ := hQ688
     have N688 := Fr.app N687 N688q
     refine GoV.sg (mkF m 141 (Sh19 q1 q2 q3 q4 q5 3 1 b519_e0 b671_e0 b672 b519_e0) [(.int (nar .char (nar .char ((lat8 (chC q1)) &&& (255 : Int32)).toUInt32.toUInt16.toUInt32.toInt32)))]) (fun t k => st688.trans k) ?_
     rw [show (nar .char (nar .char ((lat8 (chC q1)) &&& (255 : Int32)).toUInt32.toUInt16.toUInt32.toInt32)) = (chC q1) from (own_back _ (own_rC q1))]
     refine GoV.sg (mkF m 142 (Sh19 q1 q2 q3 q4 q5 3 1 b519_e0 b671_e0 b672 b519_e0) [(.int q1), (.int (chC q1))]) (fun t k => XS.iloadN X688.here hx rfl (hb hby at_141) rfl k) ?_
     refine GoV.sg (mkF m 144 (Sh19 q1 q2 q3 q4 q5 3 1 b519_e0 b671_e0 b672 b519_e0) [(.int 16), (.int q1), (.int (chC q1))]) (fun t k => XS.bipush X688.here hx rfl (hb hby at_142) k) ?_
     refine GoV.sg (mkF m 145 (Sh19 q1 q2 q3 q4 q5 3 1 b519_e0 b671_e0 b672 b519_e0) [(.int (q1.toUInt32 >>> ((16 : Int32) &&& 31).toUInt32).toInt32), (.int (chC q1))]) (fun t k => XS.iushr X688.here hx rfl (hb hby at_144) rfl k) ?_
     refine GoV.sg (mkF m 148 (Sh19 q1 q2 q3 q4 q5 3 1 b519_e0 b671_e0 b672 b519_e0) [(.int 255), (.int (q1.toUInt32 >>> ((16 : Int32) &&& 31).toUInt32).toInt32), (.int (chC q1))]) (fun t k => XS.sipush X688.here hx rfl (hb hby at_145) k) ?_
     refine GoV.sg (mkF m 149 (Sh19 q1 q2 q3 q4 q5 3 1 b519_e0 b671_e0 b672 b519_e0) [(.int ((q1.toUInt32 >>> ((16 : Int32) &&& 31).toUInt32).toInt32 &&& (255 : Int32))), (.int (chC q1))]) (fun t k => XS.iand X688.here hx rfl (hb hby at_148) rfl k) ?_
     refine GoV.sg (mkF m 150 (Sh19 q1 q2 q3 q4 q5 3 1 b519_e0 b671_e0 b672 b519_e0) [(.int ((q1.toUInt32 >>> ((16 : Int32) &&& 31).toUInt32).toInt32 &&& (255 : Int32)).toUInt32.toUInt16.toUInt32.toInt32), (.int (chC q1))]) (fun t k => XS.i2c X688.here hx rfl (hb hby at_149) rfl k) ?_
     rw [own_cC q1]
     show GoV p e below s (ValQ (.int (1 : Int32)) n0) room_1.cells room_1.slots (T688.setTop (mkF m 150 (Sh19 q1 q2 q3 q4 q5 3 1 b519_e0 b671_e0 b672 b519_e0) [(.int (chC q1)), (.int (chC q1))]))
     refine GoV.sg (mkF m 155 (Sh19 q1 q2 q3 q4 q5 3 1 b519_e0 b671_e0 b672 b519_e0) []) (fun t k => XS.icmpYes X688.here hx rfl (pc0 := 150) (pc' := 155) rfl (hb hby at_150) rfl (teq rfl).1 (by decide) (by decide) k) ?_
     refine GoV.sg (mkF m 156 (Sh19 q1 q2 q3 q4 q5 3 1 b519_e0 b671_e0 b672 b519_e0) [(.int 1)]) (fun t k => XS.iconst X688.here hx rfl (hb hby at_155) k) ?_
     refine GoV.retN X688 hS0 (by rw [e688]; exact f676_314) hx (t := .boolean) Bd.returns (by simp) (hb hby at_156) Bd.notSynchronized ?_ (by decide) (by decide)
     exact ⟨rfl, N688⟩
   ·rw [vv]
    show GoV p e below s (ValQ (.int (1 : Int32)) n0) room_1.cells room_1.slots (T519.setTop (mkF m 37 (Sh15 q1 q2 q3 q4 q5 3 2 b519_e0) []))
    refine GoV.sg (mkF m 39 (Sh15 q1 q2 q3 q4 q5 3 2 b519_e0) [(.int 2)]) (fun t k => XS.iload X519.here hx rfl (hb hby at_37) rfl k) ?_
    refine GoV.sg (mkF m 40 (Sh15 q1 q2 q3 q4 q5 3 2 b519_e0) [(.int q2), (.int 2)]) (fun t k => XS.iloadN X519.here hx rfl (hb hby at_39) rfl k) ?_
    obtain ⟨_, T689, L689, X689, hQ689, st689⟩ := own_callS X519 hx hZ hown (y := Y1) (ww hw 1 rfl) (ww hw 2 rfl) (ww hw 3 rfl) (ww hw 4 rfl) (by decide) 0 (rm1_27 l Z a0 hw [] q2 cs T519.heap n0 f519_261 f519_263   ncs ) (by decide) (by decide) rfl (by decide) (by decide) (g := (mkF m 40 (Sh15 q1 q2 q3 q4 q5 3 2 b519_e0) [(.int q2), (.int 2)])) rfl (by rw [hml]; rfl) (argsL := [(.int (2 : Int32)), (.int q2)]) (rest := []) (lenOf pd_28II29Ljava2flang2fString3b rfl) rfl (by show 2 * 0 + _ ≤ _; exact Nat.le_of_eq rfl) (hb hby at_40)
    obtain ⟨b689_e0, b689_e1, k689_ke1, rfl, N689q, K689, p689_0, p689_1, p689_2, p689_3, hz_b689_e0, hz_b689_e1⟩ := hQ689
    have N689 := Fr.app N519 N689q
    have f689_319 := Nat.le_trans f519_261 K689.1
    have f689_321 := own_staK0 f519_263 K689
    have f689_322 := own_staK0 f519_264 K689
    have f689_323 := Nat.le_trans f519_265 K689.1
    have f689_324 := p519_0.keep K689
    have f689_325 := p519_1.keep K689 nin0
    have f689_326 := p519_2.keep K689 nin0
    have f689_327 := p519_3.keep K689 nin0
    refine GoV.sg (mkF m 43 (Sh15 q1 q2 q3 q4 q5 3 2 b519_e0) [(.ref b689_e0)]) (fun t k => st689 t k) ?_
    refine GoV.sg (mkF m 45 (Sh16 q1 q2 q3 q4 q5 3 2 b519_e0 b689_e0) []) (fun t k => XS.astore X689.here hx rfl (hb hby at_43) rfl rfl (l' := (Sh16 q1 q2 q3 q4 q5 3 2 b519_e0 b689_e0)) rfl k) ?_
    obtain ⟨T690, h690, X690, e690, E690, A690, D690, -, st690⟩ := newO X689 hx hZ hown (ww hw 35 rfl) (ww hw 36 rfl) (ww hw 37 rfl) rfl (g := (mkF m 45 (Sh16 q1 q2 q3 q4 q5 3 2 b519_e0 b689_e0) [])) rfl (hb hby at_45) (by decide) (by decide)
    obtain ⟨b690, g690⟩ : ∃ z, z = T689.heap.size := ⟨_, rfl⟩
    rw [← g690] at A690 D690 st690
    have g_b690 : n0 ≤ b690 := Nat.le_trans f689_319 (Nat.le_of_eq g690.symm)
    have ne_b519_e0_b690 : b519_e0 ≠ b690 := Nat.ne_of_lt (Nat.lt_of_lt_of_eq f689_324.lt g690.symm)
    have ne_b519_e1_b690 : b519_e1 ≠ b690 := Nat.ne_of_lt (Nat.lt_of_lt_of_eq f689_327.lt g690.symm)
    have f690_330 := f689_321.ext E690
    have f690_331 := f689_322.ext E690
    have f690_332 := Nat.le_trans f689_323 E690.1
    have f690_333 := f689_324.ext E690
    have f690_334 := f689_325.ext E690
    have f690_335 := f689_326.ext E690
    have f690_336 := f689_327.ext E690
    have F690name : Fld Z h690 b690 "com/example/relaystack/relaystack/CommandLine$Option" "name" "Ljava/lang/String;" .null := D690 (Or.inr (ww hw 48 rfl)) (ty := (.object "java/lang/String")) (by decide)
    have F690given : Fld Z h690 b690 "com/example/relaystack/relaystack/CommandLine$Option" "given" "Ljava/lang/String;" .null := D690 (Or.inr (ww hw 50 rfl)) (ty := (.object "java/lang/String")) (by decide)
    refine GoV.sg (mkF m 48 (Sh16 q1 q2 q3 q4 q5 3 2 b519_e0 b689_e0) [(.ref b690)]) (fun t k => st690 t k) ?_
    refine GoV.sg (mkF m 49 (Sh16 q1 q2 q3 q4 q5 3 2 b519_e0 b689_e0) [(.ref b690), (.ref b690)]) (fun t k => XS.dup X690.here hx rfl (hb hby at_48) rfl rfl k) ?_
    refine GoV.sg (mkF m 51 (Sh16 q1 q2 q3 q4 q5 3 2 b519_e0 b689_e0) [(.ref b689_e0), (.ref b690), (.ref b690)]) (fun t k => XS.aload X690.here hx rfl (hb hby at_49) rfl rfl k) ?_
    refine GoV.sg (mkF m 53 (Sh16 q1 q2 q3 q4 q5 3 2 b519_e0 b689_e0) [(.ref b519_e0), (.ref b689_e0), (.ref b690), (.ref b690)]) (fun t k => XS.aload X690.here hx rfl (hb hby at_51) rfl rfl k) ?_
    obtain ⟨_, _, ⟨T691, L691, k691, n691⟩, -, X691, ⟨Lc691, hQ691, l691, y691, z691⟩, st691⟩ := X690.specialBack hx (y := Y8) rfl hown (mvT hZ (ww hw 38 rfl)) (mvT hZ (ww hw 39 rfl)) (mvT hZ (ww hw 40 rfl)) (by decide) (backOf (W := 1) (rm8_8 l Z a0 hw [] b690 b689_e0 b519_e0  h690 n0  A690 F690given F690name g_b690   ) hZ (ww hw 40 rfl) (ww hw 37 rfl) (by decide) (by decide)) (g := (mkF m 53 (Sh16 q1 q2 q3 q4 q5 3 2 b519_e0 b689_e0) [(.ref b519_e0), (.ref b689_e0), (.ref b690), (.ref b690)])) rfl (by rw [hml]; rfl) (Steps.refl _) (a := b690) (argsL := [(.ref b689_e0), (.ref b519_e0)]) (rest := [(.ref b690)]) (lenOf pd_28Ljava2flang2fString3bLjava2flang2fString3b29V rfl) rfl (by show 2 * 0 + _ ≤ _; exact Nat.le_of_eq rfl) (hb hby at_53) (fun _ _ => ⟨rfl, e690, (by decide : 7 + 0 ≤ _), (by decide : 20 + 0 ≤ _)⟩)
    dsimp only [Pt.U, Pt.locs, Pt.cells, Pt.slots] at X691 l691 y691 z691 st691 hQ691
    subst l691 y691 z691
    obtain ⟨rfl, N691q, K691, p691_0, p691_1, p691_2⟩ := hQ691
    have N691 := Fr.app N689 N691q
    have f691_339 := own_staK f690_330 K691 (allS (own_nsE A690) all0)
    have f691_340 := own_staK f690_331 K691 (allS (own_nsE A690) all0)
    have f691_341 := Nat.le_trans f690_332 K691.1
    have f691_342 := f690_333.keep K691
    have f691_343 := f690_334.keep K691 (ninS ne_b519_e0_b690 nin0)
    have f691_344 := f690_335.keep K691 (ninS ne_b519_e0_b690 nin0)
    have f691_345 := f690_336.keep K691 (ninS ne_b519_e1_b690 nin0)
    refine GoV.sg (mkF m 56 (Sh16 q1 q2 q3 q4 q5 3 2 b519_e0 b689_e0) [(.ref b690)]) (fun t k => st691.trans k) ?_
    refine GoV.sg (mkF m 58 (Sh18 q1 q2 q3 q4 q5 3 2 b519_e0 b689_e0 b690) []) (fun t k => XS.astore X691.here hx rfl (hb hby at_56) rfl rfl (l' := (Sh18 q1 q2 q3 q4 q5 3 2 b519_e0 b689_e0 b690)) rfl k) ?_
    refine GoV.sg (mkF m 60 (Sh18 q1 q2 q3 q4 q5 3 2 b519_e0 b689_e0 b690) [(.ref b690)]) (fun t k => XS.aload X691.here hx rfl (hb hby at_58) rfl rfl k) ?_
    obtain ⟨cq692, kq692, q692a, q692b, q692c⟩ := isOf hZ rfl p691_0
    obtain ⟨_, _, ⟨T692, L692, k692, n692⟩, -, X692, ⟨Lc692, hQ692, l692, y692, z692⟩, st692⟩ := X691.virtualBack hx (y := Y10) (z := Y10) hown (mvT hZ (ww hw 51 rfl)) (mvT hZ (ww hw 52 rfl)) (notFace_of_selects (args := #[]) (mvT hZ (ww hw 54 rfl))) (mvT hZ (ww hw 54 rfl)) (mvT hZ (ww hw 53 rfl)) (by decide) (backOf (W := 0) (rm10_55 l Z a0 hw [] b690 b519_e0 b519_e1 k519_ke1 (lat8 (chA q1)) (lat8 (chB q1)) (lat8 (chC q1)) T691.heap n0  f691_342 p691_1 f691_344 f691_345    ) hZ (ww hw 55 rfl) (ww hw 37 rfl) (by decide) (by decide)) q692a q692c (g := (mkF m 60 (Sh18 q1 q2 q3 q4 q5 3 2 b519_e0 b689_e0 b690) [(.ref b690)])) rfl (by rw [hml]; rfl) (Steps.refl _) (argsL := []) (rest := []) (lenOf pd_2829Ljava2flang2fString3b rfl) rfl (by show 2 * 0 + _ ≤ _; exact Nat.le_of_eq rfl) (hb hby at_60) (fun _ _ => ⟨rfl, rfl, (by decide : 7 + 0 ≤ _), (by decide : 20 + 0 ≤ _)⟩)
    dsimp only [Pt.U, Pt.locs, Pt.cells, Pt.slots] at X692 l692 y692 z692 st692 hQ692
    subst l692 y692 z692
    obtain ⟨rfl, N692q, e692⟩ := hQ692
    have N692 := Fr.app N691 N692q
    refine GoV.sg (mkF m 63 (Sh18 q1 q2 q3 q4 q5 3 2 b519_e0 b689_e0 b690) [(.ref b519_e0)]) (fun t k => st692.trans k) ?_
    refine GoV.sg (mkF m 65 (Sh19 q1 q2 q3 q4 q5 3 2 b519_e0 b689_e0 b690 b519_e0) []) (fun t k => XS.astore X692.here hx rfl (hb hby at_63) rfl rfl (l' := (Sh19 q1 q2 q3 q4 q5 3 2 b519_e0 b689_e0 b690 b519_e0)) rfl k) ?_
    refine GoV.sg (mkF m 67 (Sh19 q1 q2 q3 q4 q5 3 2 b519_e0 b689_e0 b690 b519_e0) [(.ref b519_e0)]) (fun t k => XS.aload X692.here hx rfl (hb hby at_65) rfl rfl k) ?_
    refine GoV.sg (mkF m 69 (Sh19 q1 q2 q3 q4 q5 3 2 b519_e0 b689_e0 b690 b519_e0) [(.ref b519_e0), (.ref b519_e0)]) (fun t k => XS.aload X692.here hx rfl (hb hby at_67) rfl rfl k) ?_
    refine GoV.sg (mkF m 74 (Sh19 q1 q2 q3 q4 q5 3 2 b519_e0 b689_e0 b690 b519_e0) []) (fun t k => Jvm.RoadKit.acmp X692 hx rfl (cd := .eq) (x := (.ref b519_e0)) (y := (.ref b519_e0)) rfl rfl (pc0 := 69) (pc' := 74) (same := true) rfl (hb hby at_69) rfl (decide_eq_true rfl) (by decide) (by decide) k) ?_
    refine GoV.sg (mkF m 76 (Sh19 q1 q2 q3 q4 q5 3 2 b519_e0 b689_e0 b690 b519_e0) [(.ref b519_e0)]) (fun t k => XS.aload X692.here hx rfl (hb hby at_74) rfl rfl k) ?_
    obtain ⟨cq693, kq693, q693a, q693b, q693c⟩ := isOf hZ e692 f691_342
    obtain ⟨_, _, ⟨T693, L693, k693, n693⟩, -, X693, ⟨Lc693, hQ693, l693, y693, z693⟩, st693⟩ := X692.virtualBack hx (y := Y12) (z := Y12) hown (mvT hZ (ww hw 61 rfl)) (mvT hZ (ww hw 62 rfl)) (notFace_of_selects (args := #[]) (mvT hZ (ww hw 64 rfl))) (mvT hZ (ww hw 64 rfl)) (mvT hZ (ww hw 63 rfl)) (by decide) (backOf (W := 0) (rm12_56 l Z a0 hw [] b519_e0 b519_e1 k519_ke1 (lat8 (chA q1)) (lat8 (chB q1)) (lat8 (chC q1)) cs T691.heap n0  f691_342 f691_343 f691_344 f691_345 f691_339   ncs ) hZ (ww hw 65 rfl) (ww hw 7 rfl) (by decide) (by decide)) q693a q693c (g := (mkF m 76 (Sh19 q1 q2 q3 q4 q5 3 2 b519_e0 b689_e0 b690 b519_e0) [(.ref b519_e0)])) rfl (by rw [hml]; rfl) (Steps.refl _) (argsL := []) (rest := []) (lenOf pd_2829I rfl) rfl (by show 2 * 0 + _ ≤ _; exact Nat.le_of_eq rfl) (hb hby at_76) (fun _ _ => ⟨rfl, e692, (by decide : 7 + 0 ≤ _), (by decide : 20 + 0 ≤ _)⟩)
    dsimp only [Pt.U, Pt.locs, Pt.cells, Pt.slots] at X693 l693 y693 z693 st693 hQ693
    subst l693 y693 z693
    obtain ⟨rfl, N693q, e693⟩ := hQ693
    have N693 := Fr.app N692 N693q
    refine GoV.sg (mkF m 79 (Sh19 q1 q2 q3 q4 q5 3 2 b519_e0 b689_e0 b690 b519_e0) [(.int 3)]) (fun t k => st693.trans k) ?_
    refine GoV.sg (mkF m 81 (Sh19 q1 q2 q3 q4 q5 3 2 b519_e0 b689_e0 b690 b519_e0) [(.int 3), (.int 3)]) (fun t k => XS.iload X693.here hx rfl (hb hby at_79) rfl k) ?_
    refine GoV.sg (mkF m 86 (Sh19 q1 q2 q3 q4 q5 3 2 b519_e0 b689_e0 b690 b519_e0) []) (fun t k => XS.icmpYes X693.here hx rfl (pc0 := 81) (pc' := 86) rfl (hb hby at_81) rfl (by decide) (by decide) (by decide) k) ?_
    rcases ref_cases hvf with rfl | ⟨af, rfl⟩
    ·show GoV p e below s (ValQ (.int (1 : Int32)) n0) room_1.cells room_1.slots (T693.setTop (mkF m 86 (Sh19 q1 q2 q3 q4 q5 3 2 b519_e0 b689_e0 b690 b519_e0) []))
     refine GoV.sg (mkF m 88 (Sh19 q1 q2 q3 q4 q5 3 2 b519_e0 b689_e0 b690 b519_e0) [(.ref b519_e0)]) (fun t k => XS.aload X693.here hx rfl (hb hby at_86) rfl rfl k) ?_
     refine GoV.sg (mkF m 89 (Sh19 q1 q2 q3 q4 q5 3 2 b519_e0 b689_e0 b690 b519_e0) [(.int 0), (.ref b519_e0)]) (fun t k => XS.iconst X693.here hx rfl (hb hby at_88) k) ?_
     obtain ⟨cq694, kq694, q694a, q694b, q694c⟩ := isOf hZ e693 f691_342
     obtain ⟨_, _, ⟨T694, L694, k694, n694⟩, -, X694, ⟨Lc694, hQ694, l694, y694, z694⟩, st694⟩ := X693.virtualBack hx (y := Y14) (z := Y14) hown (mvT hZ (ww hw 71 rfl)) (mvT hZ (ww hw 72 rfl)) (notFace_of_selects (args := #[]) (mvT hZ (ww hw 74 rfl))) (mvT hZ (ww hw 74 rfl)) (mvT hZ (ww hw 73 rfl)) (by decide) (backOf (W := 0) (rm14_60 l Z a0 hw [] b519_e0 b519_e1 k519_ke1 (lat8 (chA q1)) (lat8 (chB q1)) (lat8 (chC q1)) cs T691.heap n0  f691_342 f691_343 f691_344 f691_345 f691_339 f691_340   ncs ) hZ (ww hw 75 rfl) (ww hw 7 rfl) (by decide) (by decide)) q694a q694c (g := (mkF m 89 (Sh19 q1 q2 q3 q4 q5 3 2 b519_e0 b689_e0 b690 b519_e0) [(.int 0), (.ref b519_e0)])) rfl (by rw [hml]; rfl) (Steps.refl _) (argsL := [(.int (0 : Int32))]) (rest := []) (lenOf pd_28I29C rfl) rfl (by show 2 * 0 + _ ≤ _; exact Nat.le_of_eq rfl) (hb hby at_89) (fun _ _ => ⟨rfl, e693, (by decide : 7 + 0 ≤ _), (by decide : 20 + 0 ≤ _)⟩)
     dsimp only [Pt.U, Pt.locs, Pt.cells, Pt.slots] at X694 l694 y694 z694 st694 hQ694
     subst l694 y694 z694
     obtain ⟨rfl, N694q, e694⟩ := hQ694
     have N694 := Fr.app N693 N694q
     refine GoV.sg (mkF m 92 (Sh19 q1 q2 q3 q4 q5 3 2 b519_e0 b689_e0 b690 b519_e0) [(.int (nar .char (nar .char ((lat8 (chA q1)) &&& (255 : Int32)).toUInt32.toUInt16.toUInt32.toInt32)))]) (fun t k => st694.trans k) ?_
     rw [show (nar .char (nar .char ((lat8 (chA q1)) &&& (255 : Int32)).toUInt32.toUInt16.toUInt32.toInt32)) = (chA q1) from (own_back _ (own_rA q1))]
     refine GoV.sg (mkF m 93 (Sh19 q1 q2 q3 q4 q5 3 2 b519_e0 b689_e0 b690 b519_e0) [(.int q1), (.int (chA q1))]) (fun t k => XS.iloadN X694.here hx rfl (hb hby at_92) rfl k) ?_
     refine GoV.sg (mkF m 96 (Sh19 q1 q2 q3 q4 q5 3 2 b519_e0 b689_e0 b690 b519_e0) [(.int 255), (.int q1), (.int (chA q1))]) (fun t k => XS.sipush X694.here hx rfl (hb hby at_93) k) ?_
     refine GoV.sg (mkF m 97 (Sh19 q1 q2 q3 q4 q5 3 2 b519_e0 b689_e0 b690 b519_e0) [(.int (q1 &&& (255 : Int32))), (.int (chA q1))]) (fun t k => XS.iand X694.here hx rfl (hb hby at_96) rfl k) ?_
     refine GoV.sg (mkF m 98 (Sh19 q1 q2 q3 q4 q5 3 2 b519_e0 b689_e0 b690 b519_e0) [(.int (q1 &&& (255 : Int32)).toUInt32.toUInt16.toUInt32.toInt32), (.int (chA q1))]) (fun t k => XS.i2c X694.here hx rfl (hb hby at_97) rfl k) ?_
     rw [own_cA q1]
     show GoV p e below s (ValQ (.int (1 : Int32)) n0) room_1.cells room_1.slots (T694.setTop (mkF m 98 (Sh19 q1 q2 q3 q4 q5 3 2 b519_e0 b689_e0 b690 b519_e0) [(.int (chA q1)), (.int (chA q1))]))
     refine GoV.sg (mkF m 103 (Sh19 q1 q2 q3 q4 q5 3 2 b519_e0 b689_e0 b690 b519_e0) []) (fun t k => XS.icmpYes X694.here hx rfl (pc0 := 98) (pc' := 103) rfl (hb hby at_98) rfl (teq rfl).1 (by decide) (by decide) k) ?_
     refine GoV.sg (mkF m 105 (Sh19 q1 q2 q3 q4 q5 3 2 b519_e0 b689_e0 b690 b519_e0) [(.int 3)]) (fun t k => XS.iload X694.here hx rfl (hb hby at_103) rfl k) ?_
     refine GoV.sg (mkF m 106 (Sh19 q1 q2 q3 q4 q5 3 2 b519_e0 b689_e0 b690 b519_e0) [(.int 2), (.int 3)]) (fun t k => XS.iconst X694.here hx rfl (hb hby at_105) k) ?_
     refine GoV.sg (mkF m 109 (Sh19 q1 q2 q3 q4 q5 3 2 b519_e0 b689_e0 b690 b519_e0) []) (fun t k => XS.icmpNo X694.here hx rfl (hb hby at_106) rfl (by decide) k) ?_
     refine GoV.sg (mkF m 111 (Sh19 q1 q2 q3 q4 q5 3 2 b519_e0 b689_e0 b690 b519_e0) [(.ref b519_e0)]) (fun t k => XS.aload X694.here hx rfl (hb hby at_109) rfl rfl k) ?_
     refine GoV.sg (mkF m 112 (Sh19 q1 q2 q3 q4 q5 3 2 b519_e0 b689_e0 b690 b519_e0) [(.int 1), (.ref b519_e0)]) (fun t k => XS.iconst X694.here hx rfl (hb hby at_111) k) ?_
     obtain ⟨cq695, kq695, q695a, q695b, q695c⟩ := isOf hZ e694 f691_342
     obtain ⟨_, _, ⟨T695, L695, k695, n695⟩, -, X695, ⟨Lc695, hQ695, l695, y695, z695⟩, st695⟩ := X694.virtualBack hx (y := Y14) (z := Y14) hown (mvT hZ (ww hw 71 rfl)) (mvT hZ (ww hw 72 rfl)) (notFace_of_selects (args := #[]) (mvT hZ (ww hw 74 rfl))) (mvT hZ (ww hw 74 rfl)) (mvT hZ (ww hw 73 rfl)) (by decide) (backOf (W := 0) (rm14_64 l Z a0 hw [] b519_e0 b519_e1 k519_ke1 (lat8 (chA q1)) (lat8 (chB q1)) (lat8 (chC q1)) cs T691.heap n0  f691_342 f691_343 f691_344 f691_345 f691_339 f691_340   ncs ) hZ (ww hw 75 rfl) (ww hw 7 rfl) (by decide) (by decide)) q695a q695c (g := (mkF m 112 (Sh19 q1 q2 q3 q4 q5 3 2 b519_e0 b689_e0 b690 b519_e0) [(.int 1), (.ref b519_e0)])) rfl (by rw [hml]; rfl) (Steps.refl _) (argsL := [(.int (1 : Int32))]) (rest := []) (lenOf pd_28I29C rfl) rfl (by show 2 * 0 + _ ≤ _; exact Nat.le_of_eq rfl) (hb hby at_112) (fun _ _ => ⟨rfl, e694, (by decide : 7 + 0 ≤ _), (by decide : 20 + 0 ≤ _)⟩)
     dsimp only [Pt.U, Pt.locs, Pt.cells, Pt.slots] at X695 l695 y695 z695 st695 hQ695
     subst l695 y695 z695
     obtain ⟨rfl, N695q, e695⟩ := hQ695
     have N695 := Fr.app N694 N695q
     refine GoV.sg (mkF m 115 (Sh19 q1 q2 q3 q4 q5 3 2 b519_e0 b689_e0 b690 b519_e0) [(.int (nar .char (nar .char ((lat8 (chB q1)) &&& (255 : Int32)).toUInt32.toUInt16.toUInt32.toInt32)))]) (fun t k => st695.trans k) ?_
     rw [show (nar .char (nar .char ((lat8 (chB q1)) &&& (255 : Int32)).toUInt32.toUInt16.toUInt32.toInt32)) = (chB q1) from (own_back _ (own_rB q1))]
     refine GoV.sg (mkF m 116 (Sh19 q1 q2 q3 q4 q5 3 2 b519_e0 b689_e0 b690 b519_e0) [(.int q1), (.int (chB q1))]) (fun t k => XS.iloadN X695.here hx rfl (hb hby at_115) rfl k) ?_
     refine GoV.sg (mkF m 118 (Sh19 q1 q2 q3 q4 q5 3 2 b519_e0 b689_e0 b690 b519_e0) [(.int 8), (.int q1), (.int (chB q1))]) (fun t k => XS.bipush X695.here hx rfl (hb hby at_116) k) ?_
     refine GoV.sg (mkF m 119 (Sh19 q1 q2 q3 q4 q5 3 2 b519_e0 b689_e0 b690 b519_e0) [(.int (q1.toUInt32 >>> ((8 : Int32) &&& 31).toUInt32).toInt32), (.int (chB q1))]) (fun t k => XS.iushr X695.here hx rfl (hb hby at_118) rfl k) ?_
     refine GoV.sg (mkF m 122 (Sh19 q1 q2 q3 q4 q5 3 2 b519_e0 b689_e0 b690 b519_e0) [(.int 255), (.int (q1.toUInt32 >>> ((8 : Int32) &&& 31).toUInt32).toInt32), (.int (chB q1))]) (fun t k => XS.sipush X695.here hx rfl (hb hby at_119) k) ?_
     refine GoV.sg (mkF m 123 (Sh19 q1 q2 q3 q4 q5 3 2 b519_e0 b689_e0 b690 b519_e0) [(.int ((q1.toUInt32 >>> ((8 : Int32) &&& 31).toUInt32).toInt32 &&& (255 : Int32))), (.int (chB q1))]) (fun t k => XS.iand X695.here hx rfl (hb hby at_122) rfl k) ?_
     refine GoV.sg (mkF m 124 (Sh19 q1 q2 q3 q4 q5 3 2 b519_e0 b689_e0 b690 b519_e0) [(.int ((q1.toUInt32 >>> ((8 : Int32) &&& 31).toUInt32).toInt32 &&& (255 : Int32)).toUInt32.toUInt16.toUInt32.toInt32), (.int (chB q1))]) (fun t k => XS.i2c X695.here hx rfl (hb hby at_123) rfl k) ?_
     rw [own_cB q1]
     show GoV p e below s (ValQ (.int (1 : Int32)) n0) room_1.cells room_1.slots (T695.setTop (mkF m 124 (Sh19 q1 q2 q3 q4 q5 3 2 b519_e0 b689_e0 b690 b519_e0) [(.int (chB q1)), (.int (chB q1))]))
     refine GoV.sg (mkF m 129 (Sh19 q1 q2 q3 q4 q5 3 2 b519_e0 b689_e0 b690 b519_e0) []) (fun t k => XS.icmpYes X695.here hx rfl (pc0 := 124) (pc' := 129) rfl (hb hby at_124) rfl (teq rfl).1 (by decide) (by decide) k) ?_
     refine GoV.sg (mkF m 131 (Sh19 q1 q2 q3 q4 q5 3 2 b519_e0 b689_e0 b690 b519_e0) [(.int 3)]) (fun t k => XS.iload X695.here hx rfl (hb hby at_129) rfl k) ?_
     refine GoV.sg (mkF m 132 (Sh19 q1 q2 q3 q4 q5 3 2 b519_e0 b689_e0 b690 b519_e0) [(.int 3), (.int 3)]) (fun t k => XS.iconst X695.here hx rfl (hb hby at_131) k) ?_
     refine GoV.sg (mkF m 135 (Sh19 q1 q2 q3 q4 q5 3 2 b519_e0 b689_e0 b690 b519_e0) []) (fun t k => XS.icmpNo X695.here hx rfl (hb hby at_132) rfl (by decide) k) ?_
     refine GoV.sg (mkF m 137 (Sh19 q1 q2 q3 q4 q5 3 2 b519_e0 b689_e0 b690 b519_e0) [(.ref b519_e0)]) (fun t k => XS.aload X695.here hx rfl (hb hby at_135) rfl rfl k) ?_
     refine GoV.sg (mkF m 138 (Sh19 q1 q2 q3 q4 q5 3 2 b519_e0 b689_e0 b690 b519_e0) [(.int 2), (.ref b519_e0)]) (fun t k => XS.iconst X695.here hx rfl (hb hby at_137) k) ?_
     obtain ⟨cq696, kq696, q696a, q696b, q696c⟩ := isOf hZ e695 f691_342
     obtain ⟨_, _, ⟨T696, L696, k696, n696⟩, -, X696, ⟨Lc696, hQ696, l696, y696, z696⟩, st696⟩ := X695.virtualBack hx (y := Y14) (z := Y14) hown (mvT hZ (ww hw 71 rfl)) (mvT hZ (ww hw 72 rfl)) (notFace_of_selects (args := #[]) (mvT hZ (ww hw 74 rfl))) (mvT hZ (ww hw 74 rfl)) (mvT hZ (ww hw 73 rfl)) (by decide) (backOf (W := 0) (rm14_68 l Z a0 hw [] b519_e0 b519_e1 k519_ke1 (lat8 (chA q1)) (lat8 (chB q1)) (lat8 (chC q1)) cs T691.heap n0  f691_342 f691_343 f691_344 f691_345 f691_339 f691_340   ncs ) hZ (ww hw 75 rfl) (ww hw 7 rfl) (by decide) (by decide)) q696a q696c (g := (mkF m 138 (Sh19 q1 q2 q3 q4 q5 3 2 b519_e0 b689_e0 b690 b519_e0) [(.int 2), (.ref b519_e0)])) rfl (by rw [hml]; rfl) (Steps.refl _) (argsL := [(.int (2 : Int32))]) (rest := []) (lenOf pd_28I29C rfl) rfl (by show 2 * 0 + _ ≤ _; exact Nat.le_of_eq rfl) (hb hby at_138) (fun _ _ => ⟨rfl, e695, (by decide : 7 + 0 ≤ _), (by decide : 20 + 0 ≤ _)⟩)
     dsimp only [Pt.U, Pt.locs, Pt.cells, Pt.slots] at X696 l696 y696 z696 st696 hQ696
     subst l696 y696 z696
     obtain ⟨rfl, N696q, e696⟩ := hQ696
     have N696 := Fr.app N695 N696q
     refine GoV.sg (mkF m 141 (Sh19 q1 q2 q3 q4 q5 3 2 b519_e0 b689_e0 b690 b519_e0) [(.int (nar .char (nar .char ((lat8 (chC q1)) &&& (255 : Int32)).toUInt32.toUInt16.toUInt32.toInt32)))]) (fun t k => st696.trans k) ?_
     rw [show (nar .char (nar .char ((lat8 (chC q1)) &&& (255 : Int32)).toUInt32.toUInt16.toUInt32.toInt32)) = (chC q1) from (own_back _ (own_rC q1))]
     refine GoV.sg (mkF m 142 (Sh19 q1 q2 q3 q4 q5 3 2 b519_e0 b689_e0 b690 b519_e0) [(.int q1), (.int (chC q1))]) (fun t k => XS.iloadN X696.here hx rfl (hb hby at_141) rfl k) ?_
     refine GoV.sg (mkF m 144 (Sh19 q1 q2 q3 q4 q5 3 2 b519_e0 b689_e0 b690 b519_e0) [(.int 16), (.int q1), (.int (chC q1))]) (fun t k => XS.bipush X696.here hx rfl (hb hby at_142) k) ?_
     refine GoV.sg (mkF m 145 (Sh19 q1 q2 q3 q4 q5 3 2 b519_e0 b689_e0 b690 b519_e0) [(.int (q1.toUInt32 >>> ((16 : Int32) &&& 31).toUInt32).toInt32), (.int (chC q1))]) (fun t k => XS.iushr X696.here hx rfl (hb hby at_144) rfl k) ?_
     refine GoV.sg (mkF m 148 (Sh19 q1 q2 q3 q4 q5 3 2 b519_e0 b689_e0 b690 b519_e0) [(.int 255), (.int (q1.toUInt32 >>> ((16 : Int32) &&& 31).toUInt32).toInt32), (.int (chC q1))]) (fun t k => XS.sipush X696.here hx rfl (hb hby at_145) k) ?_
     refine GoV.sg (mkF m 149 (Sh19 q1 q2 q3 q4 q5 3 2 b519_e0 b689_e0 b690 b519_e0) [(.int ((q1.toUInt32 >>> ((16 : Int32) &&& 31).toUInt32).toInt32 &&& (255 : Int32))), (.int (chC q1))]) (fun t k => XS.iand X696.here hx rfl (hb hby at_148) rfl k) ?_
     refine GoV.sg (mkF m 150 (Sh19 q1 q2 q3 q4 q5 3 2 b519_e0 b689_e0 b690 b519_e0) [(.int ((q1.toUInt32 >>> ((16 : Int32) &&& 31).toUInt32).toInt32 &&& (255 : Int32)).toUInt32.toUInt16.toUInt32.toInt32), (.int (chC q1))]) (fun t k => XS.i2c X696.here hx rfl (hb hby at_149) rfl k) ?_
     rw [own_cC q1]
     show GoV p e below s (ValQ (.int (1 : Int32)) n0) room_1.cells room_1.slots (T696.setTop (mkF m 150 (Sh19 q1 q2 q3 q4 q5 3 2 b519_e0 b689_e0 b690 b519_e0) [(.int (chC q1)), (.int (chC q1))]))
     refine GoV.sg (mkF m 155 (Sh19 q1 q2 q3 q4 q5 3 2 b519_e0 b689_e0 b690 b519_e0) []) (fun t k => XS.icmpYes X696.here hx rfl (pc0 := 150) (pc' := 155) rfl (hb hby at_150) rfl (teq rfl).1 (by decide) (by decide) k) ?_
     refine GoV.sg (mkF m 156 (Sh19 q1 q2 q3 q4 q5 3 2 b519_e0 b689_e0 b690 b519_e0) [(.int 1)]) (fun t k => XS.iconst X696.here hx rfl (hb hby at_155) k) ?_
     refine GoV.retN X696 hS0 (by rw [e696]; exact f691_341) hx (t := .boolean) Bd.returns (by simp) (hb hby at_156) Bd.notSynchronized ?_ (by decide) (by decide)
     exact ⟨rfl, N696⟩
    ·show GoV p e below s (ValQ (.int (1 : Int32)) n0) room_1.cells room_1.slots (T693.setTop (mkF m 86 (Sh19 q1 q2 q3 q4 q5 3 2 b519_e0 b689_e0 b690 b519_e0) []))
     refine GoV.sg (mkF m 88 (Sh19 q1 q2 q3 q4 q5 3 2 b519_e0 b689_e0 b690 b519_e0) [(.ref b519_e0)]) (fun t k => XS.aload X693.here hx rfl (hb hby at_86) rfl rfl k) ?_
     refine GoV.sg (mkF m 89 (Sh19 q1 q2 q3 q4 q5 3 2 b519_e0 b689_e0 b690 b519_e0) [(.int 0), (.ref b519_e0)]) (fun t k => XS.iconst X693.here hx rfl (hb hby at_88) k) ?_
     obtain ⟨cq697, kq697, q697a, q697b, q697c⟩ := isOf hZ e693 f691_342
     obtain ⟨_, _, ⟨T697, L697, k697, n697⟩, -, X697, ⟨Lc697, hQ697, l697, y697, z697⟩, st697⟩ := X693.virtualBack hx (y := Y14) (z := Y14) hown (mvT hZ (ww hw 71 rfl)) (mvT hZ (ww hw 72 rfl)) (notFace_of_selects (args := #[]) (mvT hZ (ww hw 74 rfl))) (mvT hZ (ww hw 74 rfl)) (mvT hZ (ww hw 73 rfl)) (by decide) (backOf (W := 0) (rm14_72 l Z a0 hw [] b519_e0 b519_e1 k519_ke1 (lat8 (chA q1)) (lat8 (chB q1)) (lat8 (chC q1)) cs af T691.heap n0  f691_342 f691_343 f691_344 f691_345 f691_339 f691_340   ncs ) hZ (ww hw 75 rfl) (ww hw 7 rfl) (by decide) (by decide)) q697a q697c (g := (mkF m 89 (Sh19 q1 q2 q3 q4 q5 3 2 b519_e0 b689_e0 b690 b519_e0) [(.int 0), (.ref b519_e0)])) rfl (by rw [hml]; rfl) (Steps.refl _) (argsL := [(.int (0 : Int32))]) (rest := []) (lenOf pd_28I29C rfl) rfl (by show 2 * 0 + _ ≤ _; exact Nat.le_of_eq rfl) (hb hby at_89) (fun _ _ => ⟨rfl, e693, (by decide : 7 + 0 ≤ _), (by decide : 20 + 0 ≤ _)⟩)
     dsimp only [Pt.U, Pt.locs, Pt.cells, Pt.slots] at X697 l697 y697 z697 st697 hQ697
     subst l697 y697 z697
     obtain ⟨rfl, N697q, e697⟩ := hQ697
     have N697 := Fr.app N693 N697q
     refine GoV.sg (mkF m 92 (Sh19 q1 q2 q3 q4 q5 3 2 b519_e0 b689_e0 b690 b519_e0) [(.int (nar .char (nar .char ((lat8 (chA q1)) &&& (255 : Int32)).toUInt32.toUInt16.toUInt32.toInt32)))]) (fun t k => st697.trans k) ?_
     rw [show (nar .char (nar .char ((lat8 (chA q1)) &&& (255 : Int32)).toUInt32.toUInt16.toUInt32.toInt32)) = (chA q1) from (own_back _ (own_rA q1))]
     refine GoV.sg (mkF m 93 (Sh19 q1 q2 q3 q4 q5 3 2 b519_e0 b689_e0 b690 b519_e0) [(.int q1), (.int (chA q1))]) (fun t k => XS.iloadN X697.here hx rfl (hb hby at_92) rfl k) ?_
     refine GoV.sg (mkF m 96 (Sh19 q1 q2 q3 q4 q5 3 2 b519_e0 b689_e0 b690 b519_e0) [(.int 255), (.int q1), (.int (chA q1))]) (fun t k => XS.sipush X697.here hx rfl (hb hby at_93) k) ?_
     refine GoV.sg (mkF m 97 (Sh19 q1 q2 q3 q4 q5 3 2 b519_e0 b689_e0 b690 b519_e0) [(.int (q1 &&& (255 : Int32))), (.int (chA q1))]) (fun t k => XS.iand X697.here hx rfl (hb hby at_96) rfl k) ?_
     refine GoV.sg (mkF m 98 (Sh19 q1 q2 q3 q4 q5 3 2 b519_e0 b689_e0 b690 b519_e0) [(.int (q1 &&& (255 : Int32)).toUInt32.toUInt16.toUInt32.toInt32), (.int (chA q1))]) (fun t k => XS.i2c X697.here hx rfl (hb hby at_97) rfl k) ?_
     rw [own_cA q1]
     show GoV p e below s (ValQ (.int (1 : Int32)) n0) room_1.cells room_1.slots (T697.setTop (mkF m 98 (Sh19 q1 q2 q3 q4 q5 3 2 b519_e0 b689_e0 b690 b519_e0) [(.int (chA q1)), (.int (chA q1))]))
     refine GoV.sg (mkF m 103 (Sh19 q1 q2 q3 q4 q5 3 2 b519_e0 b689_e0 b690 b519_e0) []) (fun t k => XS.icmpYes X697.here hx rfl (pc0 := 98) (pc' := 103) rfl (hb hby at_98) rfl (teq rfl).1 (by decide) (by decide) k) ?_
     refine GoV.sg (mkF m 105 (Sh19 q1 q2 q3 q4 q5 3 2 b519_e0 b689_e0 b690 b519_e0) [(.int 3)]) (fun t k => XS.iload X697.here hx rfl (hb hby at_103) rfl k) ?_
     refine GoV.sg (mkF m 106 (Sh19 q1 q2 q3 q4 q5 3 2 b519_e0 b689_e0 b690 b519_e0) [(.int 2), (.int 3)]) (fun t k => XS.iconst X697.here hx rfl (hb hby at_105) k) ?_
     refine GoV.sg (mkF m 109 (Sh19 q1 q2 q3 q4 q5 3 2 b519_e0 b689_e0 b690 b519_e0) []) (fun t k => XS.icmpNo X697.here hx rfl (hb hby at_106) rfl (by decide) k) ?_
     refine GoV.sg (mkF m 111 (Sh19 q1 q2 q3 q4 q5 3 2 b519_e0 b689_e0 b690 b519_e0) [(.ref b519_e0)]) (fun t k => XS.aload X697.here hx rfl (hb hby at_109) rfl rfl k) ?_
     refine GoV.sg (mkF m 112 (Sh19 q1 q2 q3 q4 q5 3 2 b519_e0 b689_e0 b690 b519_e0) [(.int 1), (.ref b519_e0)]) (fun t k => XS.iconst X697.here hx rfl (hb hby at_111) k) ?_
     obtain ⟨cq698, kq698, q698a, q698b, q698c⟩ := isOf hZ e697 f691_342
     obtain ⟨_, _, ⟨T698, L698, k698, n698⟩, -, X698, ⟨Lc698, hQ698, l698, y698, z698⟩, st698⟩ := X697.virtualBack hx (y := Y14) (z := Y14) hown (mvT hZ (ww hw 71 rfl)) (mvT hZ (ww hw 72 rfl)) (notFace_of_selects (args := #[]) (mvT hZ (ww hw 74 rfl))) (mvT hZ (ww hw 74 rfl)) (mvT hZ (ww hw 73 rfl)) (by decide) (backOf (W := 0) (rm14_76 l Z a0 hw [] b519_e0 b519_e1 k519_ke1 (lat8 (chA q1)) (lat8 (chB q1)) (lat8 (chC q1)) cs af T691.heap n0  f691_342 f691_343 f691_344 f691_345 f691_339 f691_340   ncs ) hZ (ww hw 75 rfl) (ww hw 7 rfl) (by decide) (by decide)) q698a q698c (g := (mkF m 112 (Sh19 q1 q2 q3 q4 q5 3 2 b519_e0 b689_e0 b690 b519_e0) [(.int 1), (.ref b519_e0)])) rfl (by rw [hml]; rfl) (Steps.refl _) (argsL := [(.int (1 : Int32))]) (rest := []) (lenOf pd_28I29C rfl) rfl (by show 2 * 0 + _ ≤ _; exact Nat.le_of_eq rfl) (hb hby at_112) (fun _ _ => ⟨rfl, e697, (by decide : 7 + 0 ≤ _), (by decide : 20 + 0 ≤ _)⟩)
     dsimp only [Pt.U, Pt.locs, Pt.cells, Pt.slots] at X698 l698 y698 z698 st698 hQ698
     subst l698 y698 z698
     obtain ⟨rfl, N698q, e698⟩ := hQ698
     have N698 := Fr.app N697 N698q
     refine GoV.sg (mkF m 115 (Sh19 q1 q2 q3 q4 q5 3 2 b519_e0 b689_e0 b690 b519_e0) [(.int (nar .char (nar .char ((lat8 (chB q1)) &&& (255 : Int32)).toUInt32.toUInt16.toUInt32.toInt32)))]) (fun t k => st698.trans k) ?_
     rw [show (nar .char (nar .char ((lat8 (chB q1)) &&& (255 : Int32)).toUInt32.toUInt16.toUInt32.toInt32)) = (chB q1) from (own_back _ (own_rB q1))]
     refine GoV.sg (mkF m 116 (Sh19 q1 q2 q3 q4 q5 3 2 b519_e0 b689_e0 b690 b519_e0) [(.int q1), (.int (chB q1))]) (fun t k => XS.iloadN X698.here hx rfl (hb hby at_115) rfl k) ?_
     refine GoV.sg (mkF m 118 (Sh19 q1 q2 q3 q4 q5 3 2 b519_e0 b689_e0 b690 b519_e0) [(.int 8), (.int q1), (.int (chB q1))]) (fun t k => XS.bipush X698.here hx rfl (hb hby at_116) k) ?_
     refine GoV.sg (mkF m 119 (Sh19 q1 q2 q3 q4 q5 3 2 b519_e0 b689_e0 b690 b519_e0) [(.int (q1.toUInt32 >>> ((8 : Int32) &&& 31).toUInt32).toInt32), (.int (chB q1))]) (fun t k => XS.iushr X698.here hx rfl (hb hby at_118) rfl k) ?_
     refine GoV.sg (mkF m 122 (Sh19 q1 q2 q3 q4 q5 3 2 b519_e0 b689_e0 b690 b519_e0) [(.int 255), (.int (q1.toUInt32 >>> ((8 : Int32) &&& 31).toUInt32).toInt32), (.int (chB q1))]) (fun t k => XS.sipush X698.here hx rfl (hb hby at_119) k) ?_
     refine GoV.sg (mkF m 123 (Sh19 q1 q2 q3 q4 q5 3 2 b519_e0 b689_e0 b690 b519_e0) [(.int ((q1.toUInt32 >>> ((8 : Int32) &&& 31).toUInt32).toInt32 &&& (255 : Int32))), (.int (chB q1))]) (fun t k => XS.iand X698.here hx rfl (hb hby at_122) rfl k) ?_
     refine GoV.sg (mkF m 124 (Sh19 q1 q2 q3 q4 q5 3 2 b519_e0 b689_e0 b690 b519_e0) [(.int ((q1.toUInt32 >>> ((8 : Int32) &&& 31).toUInt32).toInt32 &&& (255 : Int32)).toUInt32.toUInt16.toUInt32.toInt32), (.int (chB q1))]) (fun t k => XS.i2c X698.here hx rfl (hb hby at_123) rfl k) ?_
     rw [own_cB q1]
     show GoV p e below s (ValQ (.int (1 : Int32)) n0) room_1.cells room_1.slots (T698.setTop (mkF m 124 (Sh19 q1 q2 q3 q4 q5 3 2 b519_e0 b689_e0 b690 b519_e0) [(.int (chB q1)), (.int (chB q1))]))
     refine GoV.sg (mkF m 129 (Sh19 q1 q2 q3 q4 q5 3 2 b519_e0 b689_e0 b690 b519_e0) []) (fun t k => XS.icmpYes X698.here hx rfl (pc0 := 124) (pc' := 129) rfl (hb hby at_124) rfl (teq rfl).1 (by decide) (by decide) k) ?_
     refine GoV.sg (mkF m 131 (Sh19 q1 q2 q3 q4 q5 3 2 b519_e0 b689_e0 b690 b519_e0) [(.int 3)]) (fun t k => XS.iload X698.here hx rfl (hb hby at_129) rfl k) ?_
     refine GoV.sg (mkF m 132 (Sh19 q1 q2 q3 q4 q5 3 2 b519_e0 b689_e0 b690 b519_e0) [(.int 3), (.int 3)]) (fun t k => XS.iconst X698.here hx rfl (hb hby at_131) k) ?_
     refine GoV.sg (mkF m 135 (Sh19 q1 q2 q3 q4 q5 3 2 b519_e0 b689_e0 b690 b519_e0) []) (fun t k => XS.icmpNo X698.here hx rfl (hb hby at_132) rfl (by decide) k) ?_
     refine GoV.sg (mkF m 137 (Sh19 q1 q2 q3 q4 q5 3 2 b519_e0 b689_e0 b690 b519_e0) [(.ref b519_e0)]) (fun t k => XS.aload X698.here hx rfl (hb hby at_135) rfl rfl k) ?_
     refine GoV.sg (mkF m 138 (Sh19 q1 q2 q3 q4 q5 3 2 b519_e0 b689_e0 b690 b519_e0) [(.int 2), (.ref b519_e0)]) (fun t k => XS.iconst X698.here hx rfl (hb hby at_137) k) ?_
     obtain ⟨cq699, kq699, q699a, q699b, q699c⟩ := isOf hZ e698 f691_342
     obtain ⟨_, _, ⟨T699, L699, k699, n699⟩, -, X699, ⟨Lc699, hQ699, l699, y699, z699⟩, st699⟩ := X698.virtualBack hx (y := Y14) (z := Y14) hown (mvT hZ (ww hw 71 rfl)) (mvT hZ (ww hw 72 rfl)) (notFace_of_selects (args := #[]) (mvT hZ (ww hw 74 rfl))) (mvT hZ (ww hw 74 rfl)) (mvT hZ (ww hw 73 rfl)) (by decide) (backOf (W := 0) (rm14_80 l Z a0 hw [] b519_e0 b519_e1 k519_ke1 (lat8 (chA q1)) (lat8 (chB q1)) (lat8 (chC q1)) cs af T691.heap n0  f691_342 f691_343 f691_344 f691_345 f691_339 f691_340   ncs ) hZ (ww hw 75 rfl) (ww hw 7 rfl) (by decide) (by decide)) q699a q699c (g := (mkF m 138 (Sh19 q1 q2 q3 q4 q5 3 2 b519_e0 b689_e0 b690 b519_e0) [(.int 2), (.ref b519_e0)])) rfl (by rw [hml]; rfl) (Steps.refl _) (argsL := [(.int (2 : Int32))]) (rest := []) (lenOf pd_28I29C rfl) rfl (by show 2 * 0 + _ ≤ _; exact Nat.le_of_eq rfl) (hb hby at_138) (fun _ _ => ⟨rfl, e698, (by decide : 7 + 0 ≤ _), (by decide : 20 + 0 ≤ _)⟩)
     dsimp only [Pt.U, Pt.locs, Pt.cells, Pt.slots] at X699 l699 y699 z699 st699 hQ699
     subst l699 y699 z699
     obtain ⟨rfl, N699q, e699⟩ := hQ699
     have N699 := Fr.app N698 N699q
     refine GoV.sg (mkF m 141 (Sh19 q1 q2 q3 q4 q5 3 2 b519_e0 b689_e0 b690 b519_e0) [(.int (nar .char (nar .char ((lat8 (chC q1)) &&& (255 : Int32)).toUInt32.toUInt16.toUInt32.toInt32)))]) (fun t k => st699.trans k) ?_
     rw [show (nar .char (nar .char ((lat8 (chC q1)) &&& (255 : Int32)).toUInt32.toUInt16.toUInt32.toInt32)) = (chC q1) from (own_back _ (own_rC q1))]
     refine GoV.sg (mkF m 142 (Sh19 q1 q2 q3 q4 q5 3 2 b519_e0 b689_e0 b690 b519_e0) [(.int q1), (.int (chC q1))]) (fun t k => XS.iloadN X699.here hx rfl (hb hby at_141) rfl k) ?_
     refine GoV.sg (mkF m 144 (Sh19 q1 q2 q3 q4 q5 3 2 b519_e0 b689_e0 b690 b519_e0) [(.int 16), (.int q1), (.int (chC q1))]) (fun t k => XS.bipush X699.here hx rfl (hb hby at_142) k) ?_
     refine GoV.sg (mkF m 145 (Sh19 q1 q2 q3 q4 q5 3 2 b519_e0 b689_e0 b690 b519_e0) [(.int (q1.toUInt32 >>> ((16 : Int32) &&& 31).toUInt32).toInt32), (.int (chC q1))]) (fun t k => XS.iushr X699.here hx rfl (hb hby at_144) rfl k) ?_
     refine GoV.sg (mkF m 148 (Sh19 q1 q2 q3 q4 q5 3 2 b519_e0 b689_e0 b690 b519_e0) [(.int 255), (.int (q1.toUInt32 >>> ((16 : Int32) &&& 31).toUInt32).toInt32), (.int (chC q1))]) (fun t k => XS.sipush X699.here hx rfl (hb hby at_145) k) ?_
     refine GoV.sg (mkF m 149 (Sh19 q1 q2 q3 q4 q5 3 2 b519_e0 b689_e0 b690 b519_e0) [(.int ((q1.toUInt32 >>> ((16 : Int32) &&& 31).toUInt32).toInt32 &&& (255 : Int32))), (.int (chC q1))]) (fun t k => XS.iand X699.here hx rfl (hb hby at_148) rfl k) ?_
     refine GoV.sg (mkF m 150 (Sh19 q1 q2 q3 q4 q5 3 2 b519_e0 b689_e0 b690 b519_e0) [(.int ((q1.toUInt32 >>> ((16 : Int32) &&& 31).toUInt32).toInt32 &&& (255 : Int32)).toUInt32.toUInt16.toUInt32.toInt32), (.int (chC q1))]) (fun t k => XS.i2c X699.here hx rfl (hb hby at_149) rfl k) ?_
     rw [own_cC q1]
     show GoV p e below s (ValQ (.int (1 : Int32)) n0) room_1.cells room_1.slots (T699.setTop (mkF m 150 (Sh19 q1 q2 q3 q4 q5 3 2 b519_e0 b689_e0 b690 b519_e0) [(.int (chC q1)), (.int (chC q1))]))
     refine GoV.sg (mkF m 155 (Sh19 q1 q2 q3 q4 q5 3 2 b519_e0 b689_e0 b690 b519_e0) []) (fun t k => XS.icmpYes X699.here hx rfl (pc0 := 150) (pc' := 155) rfl (hb hby at_150) rfl (teq rfl).1 (by decide) (by decide) k) ?_
     refine GoV.sg (mkF m 156 (Sh19 q1 q2 q3 q4 q5 3 2 b519_e0 b689_e0 b690 b519_e0) [(.int 1)]) (fun t k => XS.iconst X699.here hx rfl (hb hby at_155) k) ?_
     refine GoV.retN X699 hS0 (by rw [e699]; exact f691_341) hx (t := .boolean) Bd.returns (by simp) (hb hby at_156) Bd.notSynchronized ?_ (by decide) (by decide)
     exact ⟨rfl, N699⟩
   ·rw [vv]
    show GoV p e below s (ValQ (.int (1 : Int32)) n0) room_1.cells room_1.slots (T519.setTop (mkF m 37 (Sh15 q1 q2 q3 q4 q5 3 3 b519_e0) []))
    refine GoV.sg (mkF m 39 (Sh15 q1 q2 q3 q4 q5 3 3 b519_e0) [(.int 3)]) (fun t k => XS.iload X519.here hx rfl (hb hby at_37) rfl k) ?_
    refine GoV.sg (mkF m 40 (Sh15 q1 q2 q3 q4 q5 3 3 b519_e0) [(.int q2), (.int 3)]) (fun t k => XS.iloadN X519.here hx rfl (hb hby at_39) rfl k) ?_
    obtain ⟨_, T700, L700, X700, hQ700, st700⟩ := own_callS X519 hx hZ hown (y := Y1) (ww hw 1 rfl) (ww hw 2 rfl) (ww hw 3 rfl) (ww hw 4 rfl) (by decide) 0 (rm1_33 l Z a0 hw [] q2 cs T519.heap n0 f519_261 f519_263   ncs ) (by decide) (by decide) rfl (by decide) (by decide) (g := (mkF m 40 (Sh15 q1 q2 q3 q4 q5 3 3 b519_e0) [(.int q2), (.int 3)])) rfl (by rw [hml]; rfl) (argsL := [(.int (3 : Int32)), (.int q2)]) (rest := []) (lenOf pd_28II29Ljava2flang2fString3b rfl) rfl (by show 2 * 0 + _ ≤ _; exact Nat.le_of_eq rfl) (hb hby at_40)
    obtain ⟨b700_e0, b700_e1, k700_ke1, rfl, N700q, K700, p700_0, p700_1, p700_2, p700_3, hz_b700_e0, hz_b700_e1⟩ := hQ700
    have N700 := Fr.app N519 N700q
    have f700_346 := Nat.le_trans f519_261 K700.1
    have f700_348 := own_staK0 f519_263 K700
    have f700_349 := own_staK0 f519_264 K700
    have f700_350 := Nat.le_trans f519_265 K700.1
    have f700_351 := p519_0.keep K700
    have f700_352 := p519_1.keep K700 nin0
    have f700_353 := p519_2.keep K700 nin0
    have f700_354 := p519_3.keep K700 nin0
    refine GoV.sg (mkF m 43 (Sh15 q1 q2 q3 q4 q5 3 3 b519_e0) [(.ref b700_e0)]) (fun t k => st700 t k) ?_
    refine GoV.sg (mkF m 45 (Sh16 q1 q2 q3 q4 q5 3 3 b519_e0 b700_e0) []) (fun t k => XS.astore X700.here hx rfl (hb hby at_43) rfl rfl (l' := (Sh16 q1 q2 q3 q4 q5 3 3 b519_e0 b700_e0)) rfl k) ?_
    obtain ⟨T701, h701, X701, e701, E701, A701, D701, -, st701⟩ := newO X700 hx hZ hown (ww hw 35 rfl) (ww hw 36 rfl) (ww hw 37 rfl) rfl (g := (mkF m 45 (Sh16 q1 q2 q3 q4 q5 3 3 b519_e0 b700_e0) [])) rfl (hb hby at_45) (by decide) (by decide)
    obtain ⟨b701, g701⟩ : ∃ z, z = T700.heap.size := ⟨_, rfl⟩
    rw [← g701] at A701 D701 st701
    have g_b701 : n0 ≤ b701 := Nat.le_trans f700_346 (Nat.le_of_eq g701.symm)
    have ne_b519_e0_b701 : b519_e0 ≠ b701 := Nat.ne_of_lt (Nat.lt_of_lt_of_eq f700_351.lt g701.symm)
    have ne_b519_e1_b701 : b519_e1 ≠ b701 := Nat.ne_of_lt (Nat.lt_of_lt_of_eq f700_354.lt g701.symm)
    have f701_357 := f700_348.ext E701
    have f701_358 := f700_349.ext E701
    have f701_359 := Nat.le_trans f700_350 E701.1
    have f701_360 := f700_351.ext E701
    have f701_361 := f700_352.ext E701
    have f701_362 := f700_353.ext E701
    have f701_363 := f700_354.ext E701
    have F701name : Fld Z h701 b701 "com/example/relaystack/relaystack/CommandLine$Option" "name" "Ljava/lang/String;" .null := D701 (Or.inr (ww hw 48 rfl)) (ty := (.object "java/lang/String")) (by decide)
    have F701given : Fld Z h701 b701 "com/example/relaystack/relaystack/CommandLine$Option" "given" "Ljava/lang/String;" .null := D701 (Or.inr (ww hw 50 rfl)) (ty := (.object "java/lang/String")) (by decide)
    refine GoV.sg (mkF m 48 (Sh16 q1 q2 q3 q4 q5 3 3 b519_e0 b700_e0) [(.ref b701)]) (fun t k => st701 t k) ?_
    refine GoV.sg (mkF m 49 (Sh16 q1 q2 q3 q4 q5 3 3 b519_e0 b700_e0) [(.ref b701), (.ref b701)]) (fun t k => XS.dup X701.here hx rfl (hb hby at_48) rfl rfl k) ?_
    refine GoV.sg (mkF m 51 (Sh16 q1 q2 q3 q4 q5 3 3 b519_e0 b700_e0) [(.ref b700_e0), (.ref b701), (.ref b701)]) (fun t k => XS.aload X701.here hx rfl (hb hby at_49) rfl rfl k) ?_
    refine GoV.sg (mkF m 53 (Sh16 q1 q2 q3 q4 q5 3 3 b519_e0 b700_e0) [(.ref b519_e0), (.ref b700_e0), (.ref b701), (.ref b701)]) (fun t k => XS.aload X701.here hx rfl (hb hby at_51) rfl rfl k) ?_
    obtain ⟨_, _, ⟨T702, L702, k702, n702⟩, -, X702, ⟨Lc702, hQ702, l702, y702, z702⟩, st702⟩ := X701.specialBack hx (y := Y8) rfl hown (mvT hZ (ww hw 38 rfl)) (mvT hZ (ww hw 39 rfl)) (mvT hZ (ww hw 40 rfl)) (by decide) (backOf (W := 1) (rm8_8 l Z a0 hw [] b701 b700_e0 b519_e0  h701 n0  A701 F701given F701name g_b701   ) hZ (ww hw 40 rfl) (ww hw 37 rfl) (by decide) (by decide)) (g := (mkF m 53 (Sh16 q1 q2 q3 q4 q5 3 3 b519_e0 b700_e0) [(.ref b519_e0), (.ref b700_e0), (.ref b701), (.ref b701)])) rfl (by rw [hml]; rfl) (Steps.refl _) (a := b701) (argsL := [(.ref b700_e0), (.ref b519_e0)]) (rest := [(.ref b701)]) (lenOf pd_28Ljava2flang2fString3bLjava2flang2fString3b29V rfl) rfl (by show 2 * 0 + _ ≤ _; exact Nat.le_of_eq rfl) (hb hby at_53) (fun _ _ => ⟨rfl, e701, (by decide : 7 + 0 ≤ _), (by decide : 22 + 0 ≤ _)⟩)
    dsimp only [Pt.U, Pt.locs, Pt.cells, Pt.slots] at X702 l702 y702 z702 st702 hQ702
    subst l702 y702 z702
    obtain ⟨rfl, N702q, K702, p702_0, p702_1, p702_2⟩ := hQ702
    have N702 := Fr.app N700 N702q
    have f702_366 := own_staK f701_357 K702 (allS (own_nsE A701) all0)
    have f702_367 := own_staK f701_358 K702 (allS (own_nsE A701) all0)
    have f702_368 := Nat.le_trans f701_359 K702.1
    have f702_369 := f701_360.keep K702
    have f702_370 := f701_361.keep K702 (ninS ne_b519_e0_b701 nin0)
    have f702_371 := f701_362.keep K702 (ninS ne_b519_e0_b701 nin0)
    have f702_372 := f701_363.keep K702 (ninS ne_b519_e1_b701 nin0)
    refine GoV.sg (mkF m 56 (Sh16 q1 q2 q3 q4 q5 3 3 b519_e0 b700_e0) [(.ref b701)]) (fun t k => st702.trans k) ?_
    refine GoV.sg (mkF m 58 (Sh18 q1 q2 q3 q4 q5 3 3 b519_e0 b700_e0 b701) []) (fun t k => XS.astore X702.here hx rfl (hb hby at_56) rfl rfl (l' := (Sh18 q1 q2 q3 q4 q5 3 3 b519_e0 b700_e0 b701)) rfl k) ?_
    refine GoV.sg (mkF m 60 (Sh18 q1 q2 q3 q4 q5 3 3 b519_e0 b700_e0 b701) [(.ref b701)]) (fun t k => XS.aload X702.here hx rfl (hb hby at_58) rfl rfl k) ?_
    obtain ⟨cq703, kq703, q703a, q703b, q703c⟩ := isOf hZ rfl p702_0
    obtain ⟨_, _, ⟨T703, L703, k703, n703⟩, -, X703, ⟨Lc703, hQ703, l703, y703, z703⟩, st703⟩ := X702.virtualBack hx (y := Y10) (z := Y10) hown (mvT hZ (ww hw 51 rfl)) (mvT hZ (ww hw 52 rfl)) (notFace_of_selects (args := #[]) (mvT hZ (ww hw 54 rfl))) (mvT hZ (ww hw 54 rfl)) (mvT hZ (ww hw 53 rfl)) (by decide) (backOf (W := 0) (rm10_55 l Z a0 hw [] b701 b519_e0 b519_e1 k519_ke1 (lat8 (chA q1)) (lat8 (chB q1)) (lat8 (chC q1)) T702.heap n0  f702_369 p702_1 f702_371 f702_372    ) hZ (ww hw 55 rfl) (ww hw 37 rfl) (by decide) (by decide)) q703a q703c (g := (mkF m 60 (Sh18 q1 q2 q3 q4 q5 3 3 b519_e0 b700_e0 b701) [(.ref b701)])) rfl (by rw [hml]; rfl) (Steps.refl _) (argsL := []) (rest := []) (lenOf pd_2829Ljava2flang2fString3b rfl) rfl (by show 2 * 0 + _ ≤ _; exact Nat.le_of_eq rfl) (hb hby at_60) (fun _ _ => ⟨rfl, rfl, (by decide : 7 + 0 ≤ _), (by decide : 22 + 0 ≤ _)⟩)
    dsimp only [Pt.U, Pt.locs, Pt.cells, Pt.slots] at X703 l703 y703 z703 st703 hQ703
    subst l703 y703 z703
    obtain ⟨rfl, N703q, e703⟩ := hQ703
    have N703 := Fr.app N702 N703q
    refine GoV.sg (mkF m 63 (Sh18 q1 q2 q3 q4 q5 3 3 b519_e0 b700_e0 b701) [(.ref b519_e0)]) (fun t k => st703.trans k) ?_
    refine GoV.sg (mkF m 65 (Sh19 q1 q2 q3 q4 q5 3 3 b519_e0 b700_e0 b701 b519_e0) []) (fun t k => XS.astore X703.here hx rfl (hb hby at_63) rfl rfl (l' := (Sh19 q1 q2 q3 q4 q5 3 3 b519_e0 b700_e0 b701 b519_e0)) rfl k) ?_
    refine GoV.sg (mkF m 67 (Sh19 q1 q2 q3 q4 q5 3 3 b519_e0 b700_e0 b701 b519_e0) [(.ref b519_e0)]) (fun t k => XS.aload X703.here hx rfl (hb hby at_65) rfl rfl k) ?_
    refine GoV.sg (mkF m 69 (Sh19 q1 q2 q3 q4 q5 3 3 b519_e0 b700_e0 b701 b519_e0) [(.ref b519_e0), (.ref b519_e0)]) (fun t k => XS.aload X703.here hx rfl (hb hby at_67) rfl rfl k) ?_
    refine GoV.sg (mkF m 74 (Sh19 q1 q2 q3 q4 q5 3 3 b519_e0 b700_e0 b701 b519_e0) []) (fun t k => Jvm.RoadKit.acmp X703 hx rfl (cd := .eq) (x := (.ref b519_e0)) (y := (.ref b519_e0)) rfl rfl (pc0 := 69) (pc' := 74) (same := true) rfl (hb hby at_69) rfl (decide_eq_true rfl) (by decide) (by decide) k) ?_
    refine GoV.sg (mkF m 76 (Sh19 q1 q2 q3 q4 q5 3 3 b519_e0 b700_e0 b701 b519_e0) [(.ref b519_e0)]) (fun t k => XS.aload X703.here hx rfl (hb hby at_74) rfl rfl k) ?_
    obtain ⟨cq704, kq704, q704a, q704b, q704c⟩ := isOf hZ e703 f702_369
    obtain ⟨_, _, ⟨T704, L704, k704, n704⟩, -, X704, ⟨Lc704, hQ704, l704, y704, z704⟩, st704⟩ := X703.virtualBack hx (y := Y12) (z := Y12) hown (mvT hZ (ww hw 61 rfl)) (mvT hZ (ww hw 62 rfl)) (notFace_of_selects (args := #[]) (mvT hZ (ww hw 64 rfl))) (mvT hZ (ww hw 64 rfl)) (mvT hZ (ww hw 63 rfl)) (by decide) (backOf (W := 0) (rm12_56 l Z a0 hw [] b519_e0 b519_e1 k519_ke1 (lat8 (chA q1)) (lat8 (chB q1)) (lat8 (chC q1)) cs T702.heap n0  f702_369 f702_370 f702_371 f702_372 f702_366   ncs ) hZ (ww hw 65 rfl) (ww hw 7 rfl) (by decide) (by decide)) q704a q704c (g := (mkF m 76 (Sh19 q1 q2 q3 q4 q5 3 3 b519_e0 b700_e0 b701 b519_e0) [(.ref b519_e0)])) rfl (by rw [hml]; rfl) (Steps.refl _) (argsL := []) (rest := []) (lenOf pd_2829I rfl) rfl (by show 2 * 0 + _ ≤ _; exact Nat.le_of_eq rfl) (hb hby at_76) (fun _ _ => ⟨rfl, e703, (by decide : 7 + 0 ≤ _), (by decide : 22 + 0 ≤ _)⟩)
    dsimp only [Pt.U, Pt.locs, Pt.cells, Pt.slots] at X704 l704 y704 z704 st704 hQ704
    subst l704 y704 z704
    obtain ⟨rfl, N704q, e704⟩ := hQ704
    have N704 := Fr.app N703 N704q
    refine GoV.sg (mkF m 79 (Sh19 q1 q2 q3 q4 q5 3 3 b519_e0 b700_e0 b701 b519_e0) [(.int 3)]) (fun t k => st704.trans k) ?_
    refine GoV.sg (mkF m 81 (Sh19 q1 q2 q3 q4 q5 3 3 b519_e0 b700_e0 b701 b519_e0) [(.int 3), (.int 3)]) (fun t k => XS.iload X704.here hx rfl (hb hby at_79) rfl k) ?_
    refine GoV.sg (mkF m 86 (Sh19 q1 q2 q3 q4 q5 3 3 b519_e0 b700_e0 b701 b519_e0) []) (fun t k => XS.icmpYes X704.here hx rfl (pc0 := 81) (pc' := 86) rfl (hb hby at_81) rfl (by decide) (by decide) (by decide) k) ?_
    rcases ref_cases hvf with rfl | ⟨af, rfl⟩
    ·show GoV p e below s (ValQ (.int (1 : Int32)) n0) room_1.cells room_1.slots (T704.setTop (mkF m 86 (Sh19 q1 q2 q3 q4 q5 3 3 b519_e0 b700_e0 b701 b519_e0) []))
     refine GoV.sg (mkF m 88 (Sh19 q1 q2 q3 q4 q5 3 3 b519_e0 b700_e0 b701 b519_e0) [(.ref b519_e0)]) (fun t k => XS.aload X704.here hx rfl (hb hby at_86) rfl rfl k) ?_
     refine GoV.sg (mkF m 89 (Sh19 q1 q2 q3 q4 q5 3 3 b519_e0 b700_e0 b701 b519_e0) [(.int 0), (.ref b519_e0)]) (fun t k => XS.iconst X704.here hx rfl (hb hby at_88) k) ?_
     obtain ⟨cq705, kq705, q705a, q705b, q705c⟩ := isOf hZ e704 f702_369
     obtain ⟨_, _, ⟨T705, L705, k705, n705⟩, -, X705, ⟨Lc705, hQ705, l705, y705, z705⟩, st705⟩ := X704.virtualBack hx (y := Y14) (z := Y14) hown (mvT hZ (ww hw 71 rfl)) (mvT hZ (ww hw 72 rfl)) (notFace_of_selects (args := #[]) (mvT hZ (ww hw 74 rfl))) (mvT hZ (ww hw 74 rfl)) (mvT hZ (ww hw 73 rfl)) (by decide) (backOf (W := 0) (rm14_60 l Z a0 hw [] b519_e0 b519_e1 k519_ke1 (lat8 (chA q1)) (lat8 (chB q1)) (lat8 (chC q1)) cs T702.heap n0  f702_369 f702_370 f702_371 f702_372 f702_366 f702_367   ncs ) hZ (ww hw 75 rfl) (ww hw 7 rfl) (by decide) (by decide)) q705a q705c (g := (mkF m 89 (Sh19 q1 q2 q3 q4 q5 3 3 b519_e0 b700_e0 b701 b519_e0) [(.int 0), (.ref b519_e0)])) rfl (by rw [hml]; rfl) (Steps.refl _) (argsL := [(.int (0 : Int32))]) (rest := []) (lenOf pd_28I29C rfl) rfl (by show 2 * 0 + _ ≤ _; exact Nat.le_of_eq rfl) (hb hby at_89) (fun _ _ => ⟨rfl, e704, (by decide : 7 + 0 ≤ _), (by decide : 22 + 0 ≤ _)⟩)
     dsimp only [Pt.U, Pt.locs, Pt.cells, Pt.slots] at X705 l705 y705 z705 st705 hQ705
     subst l705 y705 z705
     obtain ⟨rfl, N705q, e705⟩ := hQ705
     have N705 := Fr.app N704 N705q
     refine GoV.sg (mkF m 92 (Sh19 q1 q2 q3 q4 q5 3 3 b519_e0 b700_e0 b701 b519_e0) [(.int (nar .char (nar .char ((lat8 (chA q1)) &&& (255 : Int32)).toUInt32.toUInt16.toUInt32.toInt32)))]) (fun t k => st705.trans k) ?_
     rw [show (nar .char (nar .char ((lat8 (chA q1)) &&& (255 : Int32)).toUInt32.toUInt16.toUInt32.toInt32)) = (chA q1) from (own_back _ (own_rA q1))]
     refine GoV.sg (mkF m 93 (Sh19 q1 q2 q3 q4 q5 3 3 b519_e0 b700_e0 b701 b519_e0) [(.int q1), (.int (chA q1))]) (fun t k => XS.iloadN X705.here hx rfl (hb hby at_92) rfl k) ?_
     refine GoV.sg (mkF m 96 (Sh19 q1 q2 q3 q4 q5 3 3 b519_e0 b700_e0 b701 b519_e0) [(.int 255), (.int q1), (.int (chA q1))]) (fun t k => XS.sipush X705.here hx rfl (hb hby at_93) k) ?_
     refine GoV.sg (mkF m 97 (Sh19 q1 q2 q3 q4 q5 3 3 b519_e0 b700_e0 b701 b519_e0) [(.int (q1 &&& (255 : Int32))), (.int (chA q1))]) (fun t k => XS.iand X705.here hx rfl (hb hby at_96) rfl k) ?_
     refine GoV.sg (mkF m 98 (Sh19 q1 q2 q3 q4 q5 3 3 b519_e0 b700_e0 b701 b519_e0) [(.int (q1 &&& (255 : Int32)).toUInt32.toUInt16.toUInt32.toInt32), (.int (chA q1))]) (fun t k => XS.i2c X705.here hx rfl (hb hby at_97) rfl k) ?_
     rw [own_cA q1]
     show GoV p e below s (ValQ (.int (1 : Int32)) n0) room_1.cells room_1.slots (T705.setTop (mkF m 98 (Sh19 q1 q2 q3 q4 q5 3 3 b519_e0 b700_e0 b701 b519_e0) [(.int (chA q1)), (.int (chA q1))]))
     refine GoV.sg (mkF m 103 (Sh19 q1 q2 q3 q4 q5 3 3 b519_e0 b700_e0 b701 b519_e0) []) (fun t k => XS.icmpYes X705.here hx rfl (pc0 := 98) (pc' := 103) rfl (hb hby at_98) rfl (teq rfl).1 (by decide) (by decide) k) ?_
     refine GoV.sg (mkF m 105 (Sh19 q1 q2 q3 q4 q5 3 3 b519_e0 b700_e0 b701 b519_e0) [(.int 3)]) (fun t k => XS.iload X705.here hx rfl (hb hby at_103) rfl k) ?_
     refine GoV.sg (mkF m 106 (Sh19 q1 q2 q3 q4 q5 3 3 b519_e0 b700_e0 b701 b519_e0) [(.int 2), (.int 3)]) (fun t k => XS.iconst X705.here hx rfl (hb hby at_105) k) ?_
     refine GoV.sg (mkF m 109 (Sh19 q1 q2 q3 q4 q5 3 3 b519_e0 b700_e0 b701 b519_e0) []) (fun t k => XS.icmpNo X705.here hx rfl (hb hby at_106) rfl (by decide) k) ?_
     refine GoV.sg (mkF m 111 (Sh19 q1 q2 q3 q4 q5 3 3 b519_e0 b700_e0 b701 b519_e0) [(.ref b519_e0)]) (fun t k => XS.aload X705.here hx rfl (hb hby at_109) rfl rfl k) ?_
     refine GoV.sg (mkF m 112 (Sh19 q1 q2 q3 q4 q5 3 3 b519_e0 b700_e0 b701 b519_e0) [(.int 1), (.ref b519_e0)]) (fun t k => XS.iconst X705.here hx rfl (hb hby at_111) k) ?_
     obtain ⟨cq706, kq706, q706a, q706b, q706c⟩ := isOf hZ e705 f702_369
     obtain ⟨_, _, ⟨T706, L706, k706, n706⟩, -, X706, ⟨Lc706, hQ706, l706, y706, z706⟩, st706⟩ := X705.virtualBack hx (y := Y14) (z := Y14) hown (mvT hZ (ww hw 71 rfl)) (mvT hZ (ww hw 72 rfl)) (notFace_of_selects (args := #[]) (mvT hZ (ww hw 74 rfl))) (mvT hZ (ww hw 74 rfl)) (mvT hZ (ww hw 73 rfl)) (by decide) (backOf (W := 0) (rm14_64 l Z a0 hw [] b519_e0 b519_e1 k519_ke1 (lat8 (chA q1)) (lat8 (chB q1)) (lat8 (chC q1)) cs T702.heap n0  f702_369 f702_370 f702_371 f702_372 f702_366 f702_367   ncs ) hZ (ww hw 75 rfl) (ww hw 7 rfl) (by decide) (by decide)) q706a q706c (g := (mkF m 112 (Sh19 q1 q2 q3 q4 q5 3 3 b519_e0 b700_e0 b701 b519_e0) [(.int 1), (.ref b519_e0)])) rfl (by rw [hml]; rfl) (Steps.refl _) (argsL := [(.int (1 : Int32))]) (rest := []) (lenOf pd_28I29C rfl) rfl (by show 2 * 0 + _ ≤ _; exact Nat.le_of_eq rfl) (hb hby at_112) (fun _ _ => ⟨rfl, e705, (by decide : 7 + 0 ≤ _), (by decide : 22 + 0 ≤ _)⟩)
     dsimp only [Pt.U, Pt.locs, Pt.cells, Pt.slots] at X706 l706 y706 z706 st706 hQ706
     subst l706 y706 z706
     obtain ⟨rfl, N706q, e706⟩ := hQ706
     have N706 := Fr.app N705 N706q
     refine GoV.sg (mkF m 115 (Sh19 q1 q2 q3 q4 q5 3 3 b519_e0 b700_e0 b701 b519_e0) [(.int (nar .char (nar .char ((lat8 (chB q1)) &&& (255 : Int32)).toUInt32.toUInt16.toUInt32.toInt32)))]) (fun t k => st706.trans k) ?_
     rw [show (nar .char (nar .char ((lat8 (chB q1)) &&& (255 : Int32)).toUInt32.toUInt16.toUInt32.toInt32)) = (chB q1) from (own_back _ (own_rB q1))]
     refine GoV.sg (mkF m 116 (Sh19 q1 q2 q3 q4 q5 3 3 b519_e0 b700_e0 b701 b519_e0) [(.int q1), (.int (chB q1))]) (fun t k => XS.iloadN X706.here hx rfl (hb hby at_115) rfl k) ?_
     refine GoV.sg (mkF m 118 (Sh19 q1 q2 q3 q4 q5 3 3 b519_e0 b700_e0 b701 b519_e0) [(.int 8), (.int q1), (.int (chB q1))]) (fun t k => XS.bipush X706.here hx rfl (hb hby at_116) k) ?_
     refine GoV.sg (mkF m 119 (Sh19 q1 q2 q3 q4 q5 3 3 b519_e0 b700_e0 b701 b519_e0) [(.int (q1.toUInt32 >>> ((8 : Int32) &&& 31).toUInt32).toInt32), (.int (chB q1))]) (fun t k => XS.iushr X706.here hx rfl (hb hby at_118) rfl k) ?_
     refine GoV.sg (mkF m 122 (Sh19 q1 q2 q3 q4 q5 3 3 b519_e0 b700_e0 b701 b519_e0) [(.int 255), (.int (q1.toUInt32 >>> ((8 : Int32) &&& 31).toUInt32).toInt32), (.int (chB q1))]) (fun t k => XS.sipush X706.here hx rfl (hb hby at_119) k) ?_
     refine GoV.sg (mkF m 123 (Sh19 q1 q2 q3 q4 q5 3 3 b519_e0 b700_e0 b701 b519_e0) [(.int ((q1.toUInt32 >>> ((8 : Int32) &&& 31).toUInt32).toInt32 &&& (255 : Int32))), (.int (chB q1))]) (fun t k => XS.iand X706.here hx rfl (hb hby at_122) rfl k) ?_
     refine GoV.sg (mkF m 124 (Sh19 q1 q2 q3 q4 q5 3 3 b519_e0 b700_e0 b701 b519_e0) [(.int ((q1.toUInt32 >>> ((8 : Int32) &&& 31).toUInt32).toInt32 &&& (255 : Int32)).toUInt32.toUInt16.toUInt32.toInt32), (.int (chB q1))]) (fun t k => XS.i2c X706.here hx rfl (hb hby at_123) rfl k) ?_
     rw [own_cB q1]
     show GoV p e below s (ValQ (.int (1 : Int32)) n0) room_1.cells room_1.slots (T706.setTop (mkF m 124 (Sh19 q1 q2 q3 q4 q5 3 3 b519_e0 b700_e0 b701 b519_e0) [(.int (chB q1)), (.int (chB q1))]))
     refine GoV.sg (mkF m 129 (Sh19 q1 q2 q3 q4 q5 3 3 b519_e0 b700_e0 b701 b519_e0) []) (fun t k => XS.icmpYes X706.here hx rfl (pc0 := 124) (pc' := 129) rfl (hb hby at_124) rfl (teq rfl).1 (by decide) (by decide) k) ?_
     refine GoV.sg (mkF m 131 (Sh19 q1 q2 q3 q4 q5 3 3 b519_e0 b700_e0 b701 b519_e0) [(.int 3)]) (fun t k => XS.iload X706.here hx rfl (hb hby at_129) rfl k) ?_
     refine GoV.sg (mkF m 132 (Sh19 q1 q2 q3 q4 q5 3 3 b519_e0 b700_e0 b701 b519_e0) [(.int 3), (.int 3)]) (fun t k => XS.iconst X706.here hx rfl (hb hby at_131) k) ?_
     refine GoV.sg (mkF m 135 (Sh19 q1 q2 q3 q4 q5 3 3 b519_e0 b700_e0 b701 b519_e0) []) (fun t k => XS.icmpNo X706.here hx rfl (hb hby at_132) rfl (by decide) k) ?_
     refine GoV.sg (mkF m 137 (Sh19 q1 q2 q3 q4 q5 3 3 b519_e0 b700_e0 b701 b519_e0) [(.ref b519_e0)]) (fun t k => XS.aload X706.here hx rfl (hb hby at_135) rfl rfl k) ?_
     refine GoV.sg (mkF m 138 (Sh19 q1 q2 q3 q4 q5 3 3 b519_e0 b700_e0 b701 b519_e0) [(.int 2), (.ref b519_e0)]) (fun t k => XS.iconst X706.here hx rfl (hb hby at_137) k) ?_
     obtain ⟨cq707, kq707, q707a, q707b, q707c⟩ := isOf hZ e706 f702_369
     obtain ⟨_, _, ⟨T707, L707, k707, n707⟩, -, X707, ⟨Lc707, hQ707, l707, y707, z707⟩, st707⟩ := X706.virtualBack hx (y := Y14) (z := Y14) hown (mvT hZ (ww hw 71 rfl)) (mvT hZ (ww hw 72 rfl)) (notFace_of_selects (args := #[]) (mvT hZ (ww hw 74 rfl))) (mvT hZ (ww hw 74 rfl)) (mvT hZ (ww hw 73 rfl)) (by decide) (backOf (W := 0) (rm14_68 l Z a0 hw [] b519_e0 b519_e1 k519_ke1 (lat8 (chA q1)) (lat8 (chB q1)) (lat8 (chC q1)) cs T702.heap n0  f702_369 f702_370 f702_371 f702_372 f702_366 f702_367   ncs ) hZ (ww hw 75 rfl) (ww hw 7 rfl) (by decide) (by decide)) q707a q707c (g := (mkF m 138 (Sh19 q1 q2 q3 q4 q5 3 3 b519_e0 b700_e0 b701 b519_e0) [(.int 2), (.ref b519_e0)])) rfl (by rw [hml]; rfl) (Steps.refl _) (argsL := [(.int (2 : Int32))]) (rest := []) (lenOf pd_28I29C rfl) rfl (by show 2 * 0 + _ ≤ _; exact Nat.le_of_eq rfl) (hb hby at_138) (fun _ _ => ⟨rfl, e706, (by decide : 7 + 0 ≤ _), (by decide : 22 + 0 ≤ _)⟩)
     dsimp only [Pt.U, Pt.locs, Pt.cells, Pt.slots] at X707 l707 y707 z707 st707 hQ707
     subst l707 y707 z707
     obtain ⟨rfl, N707q, e707⟩ := hQ707
     have N707 := Fr.app N706 N707q
     refine GoV.sg (mkF m 141 (Sh19 q1 q2 q3 q4 q5 3 3 b519_e0 b700_e0 b701 b519_e0) [(.int (nar .char (nar .char ((lat8 (chC q1)) &&& (255 : Int32)).toUInt32.toUInt16.toUInt32.toInt32)))]) (fun t k => st707.trans k) ?_
     rw [show (nar .char (nar .char ((lat8 (chC q1)) &&& (255 : Int32)).toUInt32.toUInt16.toUInt32.toInt32)) = (chC q1) from (own_back _ (own_rC q1))]
     refine GoV.sg (mkF m 142 (Sh19 q1 q2 q3 q4 q5 3 3 b519_e0 b700_e0 b701 b519_e0) [(.int q1), (.int (chC q1))]) (fun t k => XS.iloadN X707.here hx rfl (hb hby at_141) rfl k) ?_
     refine GoV.sg (mkF m 144 (Sh19 q1 q2 q3 q4 q5 3 3 b519_e0 b700_e0 b701 b519_e0) [(.int 16), (.int q1), (.int (chC q1))]) (fun t k => XS.bipush X707.here hx rfl (hb hby at_142) k) ?_
     refine GoV.sg (mkF m 145 (Sh19 q1 q2 q3 q4 q5 3 3 b519_e0 b700_e0 b701 b519_e0) [(.int (q1.toUInt32 >>> ((16 : Int32) &&& 31).toUInt32).toInt32), (.int (chC q1))]) (fun t k => XS.iushr X707.here hx rfl (hb hby at_144) rfl k) ?_
     refine GoV.sg (mkF m 148 (Sh19 q1 q2 q3 q4 q5 3 3 b519_e0 b700_e0 b701 b519_e0) [(.int 255), (.int (q1.toUInt32 >>> ((16 : Int32) &&& 31).toUInt32).toInt32), (.int (chC q1))]) (fun t k => XS.sipush X707.here hx rfl (hb hby at_145) k) ?_
     refine GoV.sg (mkF m 149 (Sh19 q1 q2 q3 q4 q5 3 3 b519_e0 b700_e0 b701 b519_e0) [(.int ((q1.toUInt32 >>> ((16 : Int32) &&& 31).toUInt32).toInt32 &&& (255 : Int32))), (.int (chC q1))]) (fun t k => XS.iand X707.here hx rfl (hb hby at_148) rfl k) ?_
     refine GoV.sg (mkF m 150 (Sh19 q1 q2 q3 q4 q5 3 3 b519_e0 b700_e0 b701 b519_e0) [(.int ((q1.toUInt32 >>> ((16 : Int32) &&& 31).toUInt32).toInt32 &&& (255 : Int32)).toUInt32.toUInt16.toUInt32.toInt32), (.int (chC q1))]) (fun t k => XS.i2c X707.here hx rfl (hb hby at_149) rfl k) ?_
     rw [own_cC q1]
     show GoV p e below s (ValQ (.int (1 : Int32)) n0) room_1.cells room_1.slots (T707.setTop (mkF m 150 (Sh19 q1 q2 q3 q4 q5 3 3 b519_e0 b700_e0 b701 b519_e0) [(.int (chC q1)), (.int (chC q1))]))
     refine GoV.sg (mkF m 155 (Sh19 q1 q2 q3 q4 q5 3 3 b519_e0 b700_e0 b701 b519_e0) []) (fun t k => XS.icmpYes X707.here hx rfl (pc0 := 150) (pc' := 155) rfl (hb hby at_150) rfl (teq rfl).1 (by decide) (by decide) k) ?_
     refine GoV.sg (mkF m 156 (Sh19 q1 q2 q3 q4 q5 3 3 b519_e0 b700_e0 b701 b519_e0) [(.int 1)]) (fun t k => XS.iconst X707.here hx rfl (hb hby at_155) k) ?_
     refine GoV.retN X707 hS0 (by rw [e707]; exact f702_368) hx (t := .boolean) Bd.returns (by simp) (hb hby at_156) Bd.notSynchronized ?_ (by decide) (by decide)
     exact ⟨rfl, N707⟩
    ·show GoV p e below s (ValQ (.int (1 : Int32)) n0) room_1.cells room_1.slots (T704.setTop (mkF m 86 (Sh19 q1 q2 q3 q4 q5 3 3 b519_e0 b700_e0 b701 b519_e0) []))
     refine GoV.sg (mkF m 88 (Sh19 q1 q2 q3 q4 q5 3 3 b519_e0 b700_e0 b701 b519_e0) [(.ref b519_e0)]) (fun t k => XS.aload X704.here hx rfl (hb hby at_86) rfl rfl k) ?_
     refine GoV.sg (mkF m 89 (Sh19 q1 q2 q3 q4 q5 3 3 b519_e0 b700_e0 b701 b519_e0) [(.int 0), (.ref b519_e0)]) (fun t k => XS.iconst X704.here hx rfl (hb hby at_88) k) ?_
     obtain ⟨cq708, kq708, q708a, q708b, q708c⟩ := isOf hZ e704 f702_369
     obtain ⟨_, _, ⟨T708, L708, k708, n708⟩, -, X708, ⟨Lc708, hQ708, l708, y708, z708⟩, st708⟩ := X704.virtualBack hx (y := Y14) (z := Y14) hown (mvT hZ (ww hw 71 rfl)) (mvT hZ (ww hw 72 rfl)) (notFace_of_selects (args := #[]) (mvT hZ (ww hw 74 rfl))) (mvT hZ (ww hw 74 rfl)) (mvT hZ (ww hw 73 rfl)) (by decide) (backOf (W := 0) (rm14_72 l Z a0 hw [] b519_e0 b519_e1 k519_ke1 (lat8 (chA q1)) (lat8 (chB q1)) (lat8 (chC q1)) cs af T702.heap n0  f702_369 f702_370 f702_371 f702_372 f702_366 f702_367   ncs ) hZ (ww hw 75 rfl) (ww hw 7 rfl) (by decide) (by decide)) q708a q708c (g := (mkF m 89 (Sh19 q1 q2 q3 q4 q5 3 3 b519_e0 b700_e0 b701 b519_e0) [(.int 0), (.ref b519_e0)])) rfl (by rw [hml]; rfl) (Steps.refl _) (argsL := [(.int (0 : Int32))]) (rest := []) (lenOf pd_28I29C rfl) rfl (by show 2 * 0 + _ ≤ _; exact Nat.le_of_eq rfl) (hb hby at_89) (fun _ _ => ⟨rfl, e704, (by decide : 7 + 0 ≤ _), (by decide : 22 + 0 ≤ _)⟩)
     dsimp only [Pt.U, Pt.locs, Pt.cells, Pt.slots] at X708 l708 y708 z708 st708 hQ708
     subst l708 y708 z708
     obtain ⟨rfl, N708q, e708⟩ := hQ708
     have N708 := Fr.app N704 N708q
     refine GoV.sg (mkF m 92 (Sh19 q1 q2 q3 q4 q5 3 3 b519_e0 b700_e0 b701 b519_e0) [(.int (nar .char (nar .char ((lat8 (chA q1)) &&& (255 : Int32)).toUInt32.toUInt16.toUInt32.toInt32)))]) (fun t k => st708.trans k) ?_
     rw [show (nar .char (nar .char ((lat8 (chA q1)) &&& (255 : Int32)).toUInt32.toUInt16.toUInt32.toInt32)) = (chA q1) from (own_back _ (own_rA q1))]
     refine GoV.sg (mkF m 93 (Sh19 q1 q2 q3 q4 q5 3 3 b519_e0 b700_e0 b701 b519_e0) [(.int q1), (.int (chA q1))]) (fun t k => XS.iloadN X708.here hx rfl (hb hby at_92) rfl k) ?_
     refine GoV.sg (mkF m 96 (Sh19 q1 q2 q3 q4 q5 3 3 b519_e0 b700_e0 b701 b519_e0) [(.int 255), (.int q1), (.int (chA q1))]) (fun t k => XS.sipush X708.here hx rfl (hb hby at_93) k) ?_
     refine GoV.sg (mkF m 97 (Sh19 q1 q2 q3 q4 q5 3 3 b519_e0 b700_e0 b701 b519_e0) [(.int (q1 &&& (255 : Int32))), (.int (chA q1))]) (fun t k => XS.iand X708.here hx rfl (hb hby at_96) rfl k) ?_
     refine GoV.sg (mkF m 98 (Sh19 q1 q2 q3 q4 q5 3 3 b519_e0 b700_e0 b701 b519_e0) [(.int (q1 &&& (255 : Int32)).toUInt32.toUInt16.toUInt32.toInt32), (.int (chA q1))]) (fun t k => XS.i2c X708.here hx rfl (hb hby at_97) rfl k) ?_
     rw [own_cA q1]
     show GoV p e below s (ValQ (.int (1 : Int32)) n0) room_1.cells room_1.slots (T708.setTop (mkF m 98 (Sh19 q1 q2 q3 q4 q5 3 3 b519_e0 b700_e0 b701 b519_e0) [(.int (chA q1)), (.int (chA q1))]))
     refine GoV.sg (mkF m 103 (Sh19 q1 q2 q3 q4 q5 3 3 b519_e0 b700_e0 b701 b519_e0) []) (fun t k => XS.icmpYes X708.here hx rfl (pc0 := 98) (pc' := 103) rfl (hb hby at_98) rfl (teq rfl).1 (by decide) (by decide) k) ?_
     refine GoV.sg (mkF m 105 (Sh19 q1 q2 q3 q4 q5 3 3 b519_e0 b700_e0 b701 b519_e0) [(.int 3)]) (fun t k => XS.iload X708.here hx rfl (hb hby at_103) rfl k) ?_
     refine GoV.sg (mkF m 106 (Sh19 q1 q2 q3 q4 q5 3 3 b519_e0 b700_e0 b701 b519_e0) [(.int 2), (.int 3)]) (fun t k => XS.iconst X708.here hx rfl (hb hby at_105) k) ?_
     refine GoV.sg (mkF m 109 (Sh19 q1 q2 q3 q4 q5 3 3 b519_e0 b700_e0 b701 b519_e0) []) (fun t k => XS.icmpNo X708.here hx rfl (hb hby at_106) rfl (by decide) k) ?_
     refine GoV.sg (mkF m 111 (Sh19 q1 q2 q3 q4 q5 3 3 b519_e0 b700_e0 b701 b519_e0) [(.ref b519_e0)]) (fun t k => XS.aload X708.here hx rfl (hb hby at_109) rfl rfl k) ?_
     refine GoV.sg (mkF m 112 (Sh19 q1 q2 q3 q4 q5 3 3 b519_e0 b700_e0 b701 b519_e0) [(.int 1), (.ref b519_e0)]) (fun t k => XS.iconst X708.here hx rfl (hb hby at_111) k) ?_
     obtain ⟨cq709, kq709, q709a, q709b, q709c⟩ := isOf hZ e708 f702_369
     obtain ⟨_, _, ⟨T709, L709, k709, n709⟩, -, X709, ⟨Lc709, hQ709, l709, y709, z709⟩, st709⟩ := X708.virtualBack hx (y := Y14) (z := Y14) hown (mvT hZ (ww hw 71 rfl)) (mvT hZ (ww hw 72 rfl)) (notFace_of_selects (args := #[]) (mvT hZ (ww hw 74 rfl))) (mvT hZ (ww hw 74 rfl)) (mvT hZ (ww hw 73 rfl)) (by decide) (backOf (W := 0) (rm14_76 l Z a0 hw [] b519_e0 b519_e1 k519_ke1 (lat8 (chA q1)) (lat8 (chB q1)) (lat8 (chC q1)) cs af T702.heap n0  f702_369 f702_370 f702_371 f702_372 f702_366 f702_367   ncs ) hZ (ww hw 75 rfl) (ww hw 7 rfl) (by decide) (by decide)) q709a q709c (g := (mkF m 112 (Sh19 q1 q2 q3 q4 q5 3 3 b519_e0 b700_e0 b701 b519_e0) [(.int 1), (.ref b519_e0)])) rfl (by rw [hml]; rfl) (Steps.refl _) (argsL := [(.int (1 : Int32))]) (rest := []) (lenOf pd_28I29C rfl) rfl (by show 2 * 0 + _ ≤ _; exact Nat.le_of_eq rfl) (hb hby at_112) (fun _ _ => ⟨rfl, e708, (by decide : 7 + 0 ≤ _), (by decide : 22 + 0 ≤ _)⟩)
     dsimp only [Pt.U, Pt.locs, Pt.cells, Pt.slots] at X709 l709 y709 z709 st709 hQ709
     subst l709 y709 z709
     obtain ⟨rfl, N709q, e709⟩ := hQ709
     have N709 := Fr.app N708 N709q
     refine GoV.sg (mkF m 115 (Sh19 q1 q2 q3 q4 q5 3 3 b519_e0 b700_e0 b701 b519_e0) [(.int (nar .char (nar .char ((lat8 (chB q1)) &&& (255 : Int32)).toUInt32.toUInt16.toUInt32.toInt32)))]) (fun t k => st709.trans k) ?_
     rw [show (nar .char (nar .char ((lat8 (chB q1)) &&& (255 : Int32)).toUInt32.toUInt16.toUInt32.toInt32)) = (chB q1) from (own_back _ (own_rB q1))]
     refine GoV.sg (mkF m 116 (Sh19 q1 q2 q3 q4 q5 3 3 b519_e0 b700_e0 b701 b519_e0) [(.int q1), (.int (chB q1))]) (fun t k => XS.iloadN X709.here hx rfl (hb hby at_115) rfl k) ?_
     refine GoV.sg (mkF m 118 (Sh19 q1 q2 q3 q4 q5 3 3 b519_e0 b700_e0 b701 b519_e0) [(.int 8), (.int q1), (.int (chB q1))]) (fun t k => XS.bipush X709.here hx rfl (hb hby at_116) k) ?_
     refine GoV.sg (mkF m 119 (Sh19 q1 q2 q3 q4 q5 3 3 b519_e0 b700_e0 b701 b519_e0) [(.int (q1.toUInt32 >>> ((8 : Int32) &&& 31).toUInt32).toInt32), (.int (chB q1))]) (fun t k => XS.iushr X709.here hx rfl (hb hby at_118) rfl k) ?_
     refine GoV.sg (mkF m 122 (Sh19 q1 q2 q3 q4 q5 3 3 b519_e0 b700_e0 b701 b519_e0) [(.int 255), (.int (q1.toUInt32 >>> ((8 : Int32) &&& 31).toUInt32).toInt32), (.int (chB q1))]) (fun t k => XS.sipush X709.here hx rfl (hb hby at_119) k) ?_
     refine GoV.sg (mkF m 123 (Sh19 q1 q2 q3 q4 q5 3 3 b519_e0 b700_e0 b701 b519_e0) [(.int ((q1.toUInt32 >>> ((8 : Int32) &&& 31).toUInt32).toInt32 &&& (255 : Int32))), (.int (chB q1))]) (fun t k => XS.iand X709.here hx rfl (hb hby at_122) rfl k) ?_
     refine GoV.sg (mkF m 124 (Sh19 q1 q2 q3 q4 q5 3 3 b519_e0 b700_e0 b701 b519_e0) [(.int ((q1.toUInt32 >>> ((8 : Int32) &&& 31).toUInt32).toInt32 &&& (255 : Int32)).toUInt32.toUInt16.toUInt32.toInt32), (.int (chB q1))]) (fun t k => XS.i2c X709.here hx rfl (hb hby at_123) rfl k) ?_
     rw [own_cB q1]
     show GoV p e below s (ValQ (.int (1 : Int32)) n0) room_1.cells room_1.slots (T709.setTop (mkF m 124 (Sh19 q1 q2 q3 q4 q5 3 3 b519_e0 b700_e0 b701 b519_e0) [(.int (chB q1)), (.int (chB q1))]))
     refine GoV.sg (mkF m 129 (Sh19 q1 q2 q3 q4 q5 3 3 b519_e0 b700_e0 b701 b519_e0) []) (fun t k => XS.icmpYes X709.here hx rfl (pc0 := 124) (pc' := 129) rfl (hb hby at_124) rfl (teq rfl).1 (by decide) (by decide) k) ?_
     refine GoV.sg (mkF m 131 (Sh19 q1 q2 q3 q4 q5 3 3 b519_e0 b700_e0 b701 b519_e0) [(.int 3)]) (fun t k => XS.iload X709.here hx rfl (hb hby at_129) rfl k) ?_
     refine GoV.sg (mkF m 132 (Sh19 q1 q2 q3 q4 q5 3 3 b519_e0 b700_e0 b701 b519_e0) [(.int 3), (.int 3)]) (fun t k => XS.iconst X709.here hx rfl (hb hby at_131) k) ?_
     refine GoV.sg (mkF m 135 (Sh19 q1 q2 q3 q4 q5 3 3 b519_e0 b700_e0 b701 b519_e0) []) (fun t k => XS.icmpNo X709.here hx rfl (hb hby at_132) rfl (by decide) k) ?_
     refine GoV.sg (mkF m 137 (Sh19 q1 q2 q3 q4 q5 3 3 b519_e0 b700_e0 b701 b519_e0) [(.ref b519_e0)]) (fun t k => XS.aload X709.here hx rfl (hb hby at_135) rfl rfl k) ?_
     refine GoV.sg (mkF m 138 (Sh19 q1 q2 q3 q4 q5 3 3 b519_e0 b700_e0 b701 b519_e0) [(.int 2), (.ref b519_e0)]) (fun t k => XS.iconst X709.here hx rfl (hb hby at_137) k) ?_
     obtain ⟨cq710, kq710, q710a, q710b, q710c⟩ := isOf hZ e709 f702_369
     obtain ⟨_, _, ⟨T710, L710, k710, n710⟩, -, X710, ⟨Lc710, hQ710, l710, y710, z710⟩, st710⟩ := X709.virtualBack hx (y := Y14) (z := Y14) hown (mvT hZ (ww hw 71 rfl)) (mvT hZ (ww hw 72 rfl)) (notFace_of_selects (args := #[]) (mvT hZ (ww hw 74 rfl))) (mvT hZ (ww hw 74 rfl)) (mvT hZ (ww hw 73 rfl)) (by decide) (backOf (W := 0) (rm14_80 l Z a0 hw [] b519_e0 b519_e1 k519_ke1 (lat8 (chA q1)) (lat8 (chB q1)) (lat8 (chC q1)) cs af T702.heap n0  f702_369 f702_370 f702_371 f702_372 f702_366 f702_367   ncs ) hZ (ww hw 75 rfl) (ww hw 7 rfl) (by decide) (by decide)) q710a q710c (g := (mkF m 138 (Sh19 q1 q2 q3 q4 q5 3 3 b519_e0 b700_e0 b701 b519_e0) [(.int 2), (.ref b519_e0)])) rfl (by rw [hml]; rfl) (Steps.refl _) (argsL := [(.int (2 : Int32))]) (rest := []) (lenOf pd_28I29C rfl) rfl (by show 2 * 0 + _ ≤ _; exact Nat.le_of_eq rfl) (hb hby at_138) (fun _ _ => ⟨rfl, e709, (by decide : 7 + 0 ≤ _), (by decide : 22 + 0 ≤ _)⟩)
     dsimp only [Pt.U, Pt.locs, Pt.cells, Pt.slots] at X710 l710 y710 z710 st710 hQ710
     subst l710 y710 z710
     obtain ⟨rfl, N710q, e710⟩ := hQ710
     have N710 := Fr.app N709 N710q
     refine GoV.sg (mkF m 141 (Sh19 q1 q2 q3 q4 q5 3 3 b519_e0 b700_e0 b701 b519_e0) [(.int (nar .char (nar .char ((lat8 (chC q1)) &&& (255 : Int32)).toUInt32.toUInt16.toUInt32.toInt32)))]) (fun t k => st710.trans k) ?_
     rw [show (nar .char (nar .char ((lat8 (chC q1)) &&& (255 : Int32)).toUInt32.toUInt16.toUInt32.toInt32)) = (chC q1) from (own_back _ (own_rC q1))]
     refine GoV.sg (mkF m 142 (Sh19 q1 q2 q3 q4 q5 3 3 b519_e0 b700_e0 b701 b519_e0) [(.int q1), (.int (chC q1))]) (fun t k => XS.iloadN X710.here hx rfl (hb hby at_141) rfl k) ?_
     refine GoV.sg (mkF m 144 (Sh19 q1 q2 q3 q4 q5 3 3 b519_e0 b700_e0 b701 b519_e0) [(.int 16), (.int q1), (.int (chC q1))]) (fun t k => XS.bipush X710.here hx rfl (hb hby at_142) k) ?_
     refine GoV.sg (mkF m 145 (Sh19 q1 q2 q3 q4 q5 3 3 b519_e0 b700_e0 b701 b519_e0) [(.int (q1.toUInt32 >>> ((16 : Int32) &&& 31).toUInt32).toInt32), (.int (chC q1))]) (fun t k => XS.iushr X710.here hx rfl (hb hby at_144) rfl k) ?_
     refine GoV.sg (mkF m 148 (Sh19 q1 q2 q3 q4 q5 3 3 b519_e0 b700_e0 b701 b519_e0) [(.int 255), (.int (q1.toUInt32 >>> ((16 : Int32) &&& 31).toUInt32).toInt32), (.int (chC q1))]) (fun t k => XS.sipush X710.here hx rfl (hb hby at_145) k) ?_
     refine GoV.sg (mkF m 149 (Sh19 q1 q2 q3 q4 q5 3 3 b519_e0 b700_e0 b701 b519_e0) [(.int ((q1.toUInt32 >>> ((16 : Int32) &&& 31).toUInt32).toInt32 &&& (255 : Int32))), (.int (chC q1))]) (fun t k => XS.iand X710.here hx rfl (hb hby at_148) rfl k) ?_
     refine GoV.sg (mkF m 150 (Sh19 q1 q2 q3 q4 q5 3 3 b519_e0 b700_e0 b701 b519_e0) [(.int ((q1.toUInt32 >>> ((16 : Int32) &&& 31).toUInt32).toInt32 &&& (255 : Int32)).toUInt32.toUInt16.toUInt32.toInt32), (.int (chC q1))]) (fun t k => XS.i2c X710.here hx rfl (hb hby at_149) rfl k) ?_
     rw [own_cC q1]
     show GoV p e below s (ValQ (.int (1 : Int32)) n0) room_1.cells room_1.slots (T710.setTop (mkF m 150 (Sh19 q1 q2 q3 q4 q5 3 3 b519_e0 b700_e0 b701 b519_e0) [(.int (chC q1)), (.int (chC q1))]))
     refine GoV.sg (mkF m 155 (Sh19 q1 q2 q3 q4 q5 3 3 b519_e0 b700_e0 b701 b519_e0) []) (fun t k => XS.icmpYes X710.here hx rfl (pc0 := 150) (pc' := 155) rfl (hb hby at_150) rfl (teq rfl).1 (by decide) (by decide) k) ?_
     refine GoV.sg (mkF m 156 (Sh19 q1 q2 q3 q4 q5 3 3 b519_e0 b700_e0 b701 b519_e0) [(.int 1)]) (fun t k => XS.iconst X710.here hx rfl (hb hby at_155) k) ?_
     refine GoV.retN X710 hS0 (by rw [e710]; exact f702_368) hx (t := .boolean) Bd.returns (by simp) (hb hby at_156) Bd.notSynchronized ?_ (by decide) (by decide)
     exact ⟨rfl, N710⟩
  ·refine GoV.sg (mkF m 33 (Sh15 q1 q2 q3 q4 q5 3 ((q4 &&& (2147483647 : Int32)) % (4 : Int32)) b519_e0) []) (fun t k => XS.ifNo X519.here hx rfl (hb hby at_30) rfl ((if0 _ _).trans (feq c520).1) k) ?_
   refine GoV.sg (mkF m 34 (Sh15 q1 q2 q3 q4 q5 3 ((q4 &&& (2147483647 : Int32)) % (4 : Int32)) b519_e0) [.null]) (fun t k => XS.aconstNull X519.here hx rfl (hb hby at_33) k) ?_
   refine GoV.sg (mkF m 43 (Sh15 q1 q2 q3 q4 q5 3 ((q4 &&& (2147483647 : Int32)) % (4 : Int32)) b519_e0) [.null]) (fun t k => XS.goto X519.here hx rfl (pc0 := 34) (pc' := 43) rfl (hb hby at_34) (by decide) (by decide) k) ?_
   refine GoV.sg (mkF m 45 (Sh22 q1 q2 q3 q4 q5 3 ((q4 &&& (2147483647 : Int32)) % (4 : Int32)) b519_e0) []) (fun t k => XS.astore X519.here hx rfl (hb hby at_43) rfl rfl (l' := (Sh22 q1 q2 q3 q4 q5 3 ((q4 &&& (2147483647 : Int32)) % (4 : Int32)) b519_e0)) rfl k) ?_
   obtain ⟨T711, h711, X711, e711, E711, A711, D711, -, st711⟩ := newO X519 hx hZ hown (ww hw 35 rfl) (ww hw 36 rfl) (ww hw 37 rfl) rfl (g := (mkF m 45 (Sh22 q1 q2 q3 q4 q5 3 ((q4 &&& (2147483647 : Int32)) % (4 : Int32)) b519_e0) [])) rfl (hb hby at_45) (by decide) (by decide)
   obtain ⟨b711, g711⟩ : ∃ z, z = T519.heap.size := ⟨_, rfl⟩
   rw [← g711] at A711 D711 st711
   have g_b711 : n0 ≤ b711 := Nat.le_trans f519_261 (Nat.le_of_eq g711.symm)
   have ne_b519_e0_b711 : b519_e0 ≠ b711 := Nat.ne_of_lt (Nat.lt_of_lt_of_eq p519_0.lt g711.symm)
   have ne_b519_e1_b711 : b519_e1 ≠ b711 := Nat.ne_of_lt (Nat.lt_of_lt_of_eq p519_3.lt g711.symm)
   have f711_375 := f519_263.ext E711
   have f711_376 := f519_264.ext E711
   have f711_377 := Nat.le_trans f519_265 E711.1
   have f711_378 := p519_0.ext E711
   have f711_379 := p519_1.ext E711
   have f711_380 := p519_2.ext E711
   have f711_381 := p519_3.ext E711
   have F711name : Fld Z h711 b711 "com/example/relaystack/relaystack/CommandLine$Option" "name" "Ljava/lang/String;" .null := D711 (Or.inr (ww hw 48 rfl)) (ty := (.object "java/lang/String")) (by decide)
   have F711given : Fld Z h711 b711 "com/example/relaystack/relaystack/CommandLine$Option" "given" "Ljava/lang/String;" .null := D711 (Or.inr (ww hw 50 rfl)) (ty := (.object "java/lang/String")) (by decide)
   refine GoV.sg (mkF m 48 (Sh22 q1 q2 q3 q4 q5 3 ((q4 &&& (2147483647 : Int32)) % (4 : Int32)) b519_e0) [(.ref b711)]) (fun t k => st711 t k) ?_
   refine GoV.sg (mkF m 49 (Sh22 q1 q2 q3 q4 q5 3 ((q4 &&& (2147483647 : Int32)) % (4 : Int32)) b519_e0) [(.ref b711), (.ref b711)]) (fun t k => XS.dup X711.here hx rfl (hb hby at_48) rfl rfl k) ?_
   refine GoV.sg (mkF m 51 (Sh22 q1 q2 q3 q4 q5 3 ((q4 &&& (2147483647 : Int32)) % (4 : Int32)) b519_e0) [.null, (.ref b711), (.ref b711)]) (fun t k => XS.aload X711.here hx rfl (hb hby at_49) rfl rfl k) ?_
   refine GoV.sg (mkF m 53 (Sh22 q1 q2 q3 q4 q5 3 ((q4 &&& (2147483647 : Int32)) % (4 : Int32)) b519_e0) [(.ref b519_e0), .null, (.ref b711), (.ref b711)]) (fun t k => XS.aload X711.here hx rfl (hb hby at_51) rfl rfl k) ?_
   obtain ⟨_, _, ⟨T715, L715, k715, n715⟩, -, X715, ⟨Lc715, hQ715, l715, y715, z715⟩, st715⟩ := X711.specialBack hx (y := Y8) rfl hown (mvT hZ (ww hw 38 rfl)) (mvT hZ (ww hw 39 rfl)) (mvT hZ (ww hw 40 rfl)) (by decide) (backOf (W := 1) (rm8_34 l Z a0 hw [] b711 b519_e0  h711 n0  A711 F711given F711name g_b711   ) hZ (ww hw 40 rfl) (ww hw 37 rfl) (by decide) (by decide)) (g := (mkF m 53 (Sh22 q1 q2 q3 q4 q5 3 ((q4 &&& (2147483647 : Int32)) % (4 : Int32)) b519_e0) [(.ref b519_e0), .null, (.ref b711), (.ref b711)])) rfl (by rw [hml]; rfl) (Steps.refl _) (a := b711) (argsL := [.null, (.ref b519_e0)]) (rest := [(.ref b711)]) (lenOf pd_28Ljava2flang2fString3bLjava2flang2fString3b29V rfl) rfl (by show 2 * 0 + _ ≤ _; exact Nat.le_of_eq rfl) (hb hby at_53) (fun _ _ => ⟨rfl, e711, (by decide : 4 + 0 ≤ _), (by decide : 12 + 0 ≤ _)⟩)
   dsimp only [Pt.U, Pt.locs, Pt.cells, Pt.slots] at X715 l715 y715 z715 st715 hQ715
   subst l715 y715 z715
   obtain ⟨rfl, N715q, K715, p715_0, p715_1, p715_2⟩ := hQ715
   have N715 := Fr.app N519 N715q
   have f715_384 := own_staK f711_375 K715 (allS (own_nsE A711) all0)
   have f715_385 := own_staK f711_376 K715 (allS (own_nsE A711) all0)
   have f715_386 := Nat.le_trans f711_377 K715.1
   have f715_387 := f711_378.keep K715
   have f715_388 := f711_379.keep K715 (ninS ne_b519_e0_b711 nin0)
   have f715_389 := f711_380.keep K715 (ninS ne_b519_e0_b711 nin0)
   have f715_390 := f711_381.keep K715 (ninS ne_b519_e1_b711 nin0)
   refine GoV.sg (mkF m 56 (Sh22 q1 q2 q3 q4 q5 3 ((q4 &&& (2147483647 : Int32)) % (4 : Int32)) b519_e0) [(.ref b711)]) (fun t k => st715.trans k) ?_
   refine GoV.sg (mkF m 58 (Sh24 q1 q2 q3 q4 q5 3 ((q4 &&& (2147483647 : Int32)) % (4 : Int32)) b519_e0 b711) []) (fun t k => XS.astore X715.here hx rfl (hb hby at_56) rfl rfl (l' := (Sh24 q1 q2 q3 q4 q5 3 ((q4 &&& (2147483647 : Int32)) % (4 : Int32)) b519_e0 b711)) rfl k) ?_
   refine GoV.sg (mkF m 60 (Sh24 q1 q2 q3 q4 q5 3 ((q4 &&& (2147483647 : Int32)) % (4 : Int32)) b519_e0 b711) [(.ref b711)]) (fun t k => XS.aload X715.here hx rfl (hb hby at_58) rfl rfl k) ?_
   obtain ⟨cq720, kq720, q720a, q720b, q720c⟩ := isOf hZ rfl p715_0
   obtain ⟨_, _, ⟨T720, L720, k720, n720⟩, -, X720, ⟨Lc720, hQ720, l720, y720, z720⟩, st720⟩ := X715.virtualBack hx (y := Y10) (z := Y10) hown (mvT hZ (ww hw 51 rfl)) (mvT hZ (ww hw 52 rfl)) (notFace_of_selects (args := #[]) (mvT hZ (ww hw 54 rfl))) (mvT hZ (ww hw 54 rfl)) (mvT hZ (ww hw 53 rfl)) (by decide) (backOf (W := 0) (rm10_55 l Z a0 hw [] b711 b519_e0 b519_e1 k519_ke1 (lat8 (chA q1)) (lat8 (chB q1)) (lat8 (chC q1)) T715.heap n0  f715_387 p715_1 f715_389 f715_390    ) hZ (ww hw 55 rfl) (ww hw 37 rfl) (by decide) (by decide)) q720a q720c (g := (mkF m 60 (Sh24 q1 q2 q3 q4 q5 3 ((q4 &&& (2147483647 : Int32)) % (4 : Int32)) b519_e0 b711) [(.ref b711)])) rfl (by rw [hml]; rfl) (Steps.refl _) (argsL := []) (rest := []) (lenOf pd_2829Ljava2flang2fString3b rfl) rfl (by show 2 * 0 + _ ≤ _; exact Nat.le_of_eq rfl) (hb hby at_60) (fun _ _ => ⟨rfl, rfl, (by decide : 4 + 0 ≤ _), (by decide : 12 + 0 ≤ _)⟩)
   dsimp only [Pt.U, Pt.locs, Pt.cells, Pt.slots] at X720 l720 y720 z720 st720 hQ720
   subst l720 y720 z720
   obtain ⟨rfl, N720q, e720⟩ := hQ720
   have N720 := Fr.app N715 N720q
   refine GoV.sg (mkF m 63 (Sh24 q1 q2 q3 q4 q5 3 ((q4 &&& (2147483647 : Int32)) % (4 : Int32)) b519_e0 b711) [(.ref b519_e0)]) (fun t k => st720.trans k) ?_
   refine GoV.sg (mkF m 65 (Sh25 q1 q2 q3 q4 q5 3 ((q4 &&& (2147483647 : Int32)) % (4 : Int32)) b519_e0 b711 b519_e0) []) (fun t k => XS.astore X720.here hx rfl (hb hby at_63) rfl rfl (l' := (Sh25 q1 q2 q3 q4 q5 3 ((q4 &&& (2147483647 : Int32)) % (4 : Int32)) b519_e0 b711 b519_e0)) rfl k) ?_
   refine GoV.sg (mkF m 67 (Sh25 q1 q2 q3 q4 q5 3 ((q4 &&& (2147483647 : Int32)) % (4 : Int32)) b519_e0 b711 b519_e0) [(.ref b519_e0)]) (fun t k => XS.aload X720.here hx rfl (hb hby at_65) rfl rfl k) ?_
   refine GoV.sg (mkF m 69 (Sh25 q1 q2 q3 q4 q5 3 ((q4 &&& (2147483647 : Int32)) % (4 : Int32)) b519_e0 b711 b519_e0) [(.ref b519_e0), (.ref b519_e0)]) (fun t k => XS.aload X720.here hx rfl (hb hby at_67) rfl rfl k) ?_
   refine GoV.sg (mkF m 74 (Sh25 q1 q2 q3 q4 q5 3 ((q4 &&& (2147483647 : Int32)) % (4 : Int32)) b519_e0 b711 b519_e0) []) (fun t k => Jvm.RoadKit.acmp X720 hx rfl (cd := .eq) (x := (.ref b519_e0)) (y := (.ref b519_e0)) rfl rfl (pc0 := 69) (pc' := 74) (same := true) rfl (hb hby at_69) rfl (decide_eq_true rfl) (by decide) (by decide) k) ?_
   refine GoV.sg (mkF m 76 (Sh25 q1 q2 q3 q4 q5 3 ((q4 &&& (2147483647 : Int32)) % (4 : Int32)) b519_e0 b711 b519_e0) [(.ref b519_e0)]) (fun t k => XS.aload X720.here hx rfl (hb hby at_74) rfl rfl k) ?_
   obtain ⟨cq721, kq721, q721a, q721b, q721c⟩ := isOf hZ e720 f715_387
   obtain ⟨_, _, ⟨T721, L721, k721, n721⟩, -, X721, ⟨Lc721, hQ721, l721, y721, z721⟩, st721⟩ := X720.virtualBack hx (y := Y12) (z := Y12) hown (mvT hZ (ww hw 61 rfl)) (mvT hZ (ww hw 62 rfl)) (notFace_of_selects (args := #[]) (mvT hZ (ww hw 64 rfl))) (mvT hZ (ww hw 64 rfl)) (mvT hZ (ww hw 63 rfl)) (by decide) (backOf (W := 0) (rm12_56 l Z a0 hw [] b519_e0 b519_e1 k519_ke1 (lat8 (chA q1)) (lat8 (chB q1)) (lat8 (chC q1)) cs T715.heap n0  f715_387 f715_388 f715_389 f715_390 f715_384   ncs ) hZ (ww hw 65 rfl) (ww hw 7 rfl) (by decide) (by decide)) q721a q721c (g := (mkF m 76 (Sh25 q1 q2 q3 q4 q5 3 ((q4 &&& (2147483647 : Int32)) % (4 : Int32)) b519_e0 b711 b519_e0) [(.ref b519_e0)])) rfl (by rw [hml]; rfl) (Steps.refl _) (argsL := []) (rest := []) (lenOf pd_2829I rfl) rfl (by show 2 * 0 + _ ≤ _; exact Nat.le_of_eq rfl) (hb hby at_76) (fun _ _ => ⟨rfl, e720, (by decide : 4 + 0 ≤ _), (by decide : 12 + 0 ≤ _)⟩)
   dsimp only [Pt.U, Pt.locs, Pt.cells, Pt.slots] at X721 l721 y721 z721 st721 hQ721
   subst l721 y721 z721
   obtain ⟨rfl, N721q, e721⟩ := hQ721
   have N721 := Fr.app N720 N721q
   refine GoV.sg (mkF m 79 (Sh25 q1 q2 q3 q4 q5 3 ((q4 &&& (2147483647 : Int32)) % (4 : Int32)) b519_e0 b711 b519_e0) [(.int 3)]) (fun t k => st721.trans k) ?_
   refine GoV.sg (mkF m 81 (Sh25 q1 q2 q3 q4 q5 3 ((q4 &&& (2147483647 : Int32)) % (4 : Int32)) b519_e0 b711 b519_e0) [(.int 3), (.int 3)]) (fun t k => XS.iload X721.here hx rfl (hb hby at_79) rfl k) ?_
   refine GoV.sg (mkF m 86 (Sh25 q1 q2 q3 q4 q5 3 ((q4 &&& (2147483647 : Int32)) % (4 : Int32)) b519_e0 b711 b519_e0) []) (fun t k => XS.icmpYes X721.here hx rfl (pc0 := 81) (pc' := 86) rfl (hb hby at_81) rfl (by decide) (by decide) (by decide) k) ?_
   rcases ref_cases hvf with rfl | ⟨af, rfl⟩
   ·show GoV p e below s (ValQ (.int (1 : Int32)) n0) room_1.cells room_1.slots (T721.setTop (mkF m 86 (Sh25 q1 q2 q3 q4 q5 3 ((q4 &&& (2147483647 : Int32)) % (4 : Int32)) b519_e0 b711 b519_e0) []))
    refine GoV.sg (mkF m 88 (Sh25 q1 q2 q3 q4 q5 3 ((q4 &&& (2147483647 : Int32)) % (4 : Int32)) b519_e0 b711 b519_e0) [(.ref b519_e0)]) (fun t k => XS.aload X721.here hx rfl (hb hby at_86) rfl rfl k) ?_
    refine GoV.sg (mkF m 89 (Sh25 q1 q2 q3 q4 q5 3 ((q4 &&& (2147483647 : Int32)) % (4 : Int32)) b519_e0 b711 b519_e0) [(.int 0), (.ref b519_e0)]) (fun t k => XS.iconst X721.here hx rfl (hb hby at_88) k) ?_
    obtain ⟨cq722, kq722, q722a, q722b, q722c⟩ := isOf hZ e721 f715_387
    obtain ⟨_, _, ⟨T722, L722, k722, n722⟩, -, X722, ⟨Lc722, hQ722, l722, y722, z722⟩, st722⟩ := X721.virtualBack hx (y := Y14) (z := Y14) hown (mvT hZ (ww hw 71 rfl)) (mvT hZ (ww hw 72 rfl)) (notFace_of_selects (args := #[]) (mvT hZ (ww hw 74 rfl))) (mvT hZ (ww hw 74 rfl)) (mvT hZ (ww hw 73 rfl)) (by decide) (backOf (W := 0) (rm14_60 l Z a0 hw [] b519_e0 b519_e1 k519_ke1 (lat8 (chA q1)) (lat8 (chB q1)) (lat8 (chC q1)) cs T715.heap n0  f715_387 f715_388 f715_389 f715_390 f715_384 f715_385   ncs ) hZ (ww hw 75 rfl) (ww hw 7 rfl) (by decide) (by decide)) q722a q722c (g := (mkF m 89 (Sh25 q1 q2 q3 q4 q5 3 ((q4 &&& (2147483647 : Int32)) % (4 : Int32)) b519_e0 b711 b519_e0) [(.int 0), (.ref b519_e0)])) rfl (by rw [hml]; rfl) (Steps.refl _) (argsL := [(.int (0 : Int32))]) (rest := []) (lenOf pd_28I29C rfl) rfl (by show 2 * 0 + _ ≤ _; exact Nat.le_of_eq rfl) (hb hby at_89) (fun _ _ => ⟨rfl, e721, (by decide : 4 + 0 ≤ _), (by decide : 12 + 0 ≤ _)⟩)
    dsimp only [Pt.U, Pt.locs, Pt.cells, Pt.slots] at X722 l722 y722 z722 st722 hQ722
    subst l722 y722 z722
    obtain ⟨rfl, N722q, e722⟩ := hQ722
    have N722 := Fr.app N721 N722q
    refine GoV.sg (mkF m 92 (Sh25 q1 q2 q3 q4 q5 3 ((q4 &&& (2147483647 : Int32)) % (4 : Int32)) b519_e0 b711 b519_e0) [(.int (nar .char (nar .char ((lat8 (chA q1)) &&& (255 : Int32)).toUInt32.toUInt16.toUInt32.toInt32)))]) (fun t k => st722.trans k) ?_
    rw [show (nar .char (nar .char ((lat8 (chA q1)) &&& (255 : Int32)).toUInt32.toUInt16.toUInt32.toInt32)) = (chA q1) from (own_back _ (own_rA q1))]
    refine GoV.sg (mkF m 93 (Sh25 q1 q2 q3 q4 q5 3 ((q4 &&& (2147483647 : Int32)) % (4 : Int32)) b519_e0 b711 b519_e0) [(.int q1), (.int (chA q1))]) (fun t k => XS.iloadN X722.here hx rfl (hb hby at_92) rfl k) ?_
    refine GoV.sg (mkF m 96 (Sh25 q1 q2 q3 q4 q5 3 ((q4 &&& (2147483647 : Int32)) % (4 : Int32)) b519_e0 b711 b519_e0) [(.int 255), (.int q1), (.int (chA q1))]) (fun t k => XS.sipush X722.here hx rfl (hb hby at_93) k) ?_
    refine GoV.sg (mkF m 97 (Sh25 q1 q2 q3 q4 q5 3 ((q4 &&& (2147483647 : Int32)) % (4 : Int32)) b519_e0 b711 b519_e0) [(.int (q1 &&& (255 : Int32))), (.int (chA q1))]) (fun t k => XS.iand X722.here hx rfl (hb hby at_96) rfl k) ?_
    refine GoV.sg (mkF m 98 (Sh25 q1 q2 q3 q4 q5 3 ((q4 &&& (2147483647 : Int32)) % (4 : Int32)) b519_e0 b711 b519_e0) [(.int (q1 &&& (255 : Int32)).toUInt32.toUInt16.toUInt32.toInt32), (.int (chA q1))]) (fun t k => XS.i2c X722.here hx rfl (hb hby at_97) rfl k) ?_
    rw [own_cA q1]
    show GoV p e below s (ValQ (.int (1 : Int32)) n0) room_1.cells room_1.slots (T722.setTop (mkF m 98 (Sh25 q1 q2 q3 q4 q5 3 ((q4 &&& (2147483647 : Int32)) % (4 : Int32)) b519_e0 b711 b519_e0) [(.int (chA q1)), (.int (chA q1))]))
    refine GoV.sg (mkF m 103 (Sh25 q1 q2 q3 q4 q5 3 ((q4 &&& (2147483647 : Int32)) % (4 : Int32)) b519_e0 b711 b519_e0) []) (fun t k => XS.icmpYes X722.here hx rfl (pc0 := 98) (pc' := 103) rfl (hb hby at_98) rfl (teq rfl).1 (by decide) (by decide) k) ?_
    refine GoV.sg (mkF m 105 (Sh25 q1 q2 q3 q4 q5 3 ((q4 &&& (2147483647 : Int32)) % (4 : Int32)) b519_e0 b711 b519_e0) [(.int 3)]) (fun t k => XS.iload X722.here hx rfl (hb hby at_103) rfl k) ?_
    refine GoV.sg (mkF m 106 (Sh25 q1 q2 q3 q4 q5 3 ((q4 &&& (2147483647 : Int32)) % (4 : Int32)) b519_e0 b711 b519_e0) [(.int 2), (.int 3)]) (fun t k => XS.iconst X722.here hx rfl (hb hby at_105) k) ?_
    refine GoV.sg (mkF m 109 (Sh25 q1 q2 q3 q4 q5 3 ((q4 &&& (2147483647 : Int32)) % (4 : Int32)) b519_e0 b711 b519_e0) []) (fun t k => XS.icmpNo X722.here hx rfl (hb hby at_106) rfl (by decide) k) ?_
    refine GoV.sg (mkF m 111 (Sh25 q1 q2 q3 q4 q5 3 ((q4 &&& (2147483647 : Int32)) % (4 : Int32)) b519_e0 b711 b519_e0) [(.ref b519_e0)]) (fun t k => XS.aload X722.here hx rfl (hb hby at_109) rfl rfl k) ?_
    refine GoV.sg (mkF m 112 (Sh25 q1 q2 q3 q4 q5 3 ((q4 &&& (2147483647 : Int32)) % (4 : Int32)) b519_e0 b711 b519_e0) [(.int 1), (.ref b519_e0)]) (fun t k => XS.iconst X722.here hx rfl (hb hby at_111) k) ?_
    obtain ⟨cq723, kq723, q723a, q723b, q723c⟩ := isOf hZ e722 f715_387
    obtain ⟨_, _, ⟨T723, L723, k723, n723⟩, -, X723, ⟨Lc723, hQ723, l723, y723, z723⟩, st723⟩ := X722.virtualBack hx (y := Y14) (z := Y14) hown (mvT hZ (ww hw 71 rfl)) (mvT hZ (ww hw 72 rfl)) (notFace_of_selects (args := #[]) (mvT hZ (ww hw 74 rfl))) (mvT hZ (ww hw 74 rfl)) (mvT hZ (ww hw 73 rfl)) (by decide) (backOf (W := 0) (rm14_64 l Z a0 hw [] b519_e0 b519_e1 k519_ke1 (lat8 (chA q1)) (lat8 (chB q1)) (lat8 (chC q1)) cs T715.heap n0  f715_387 f715_388 f715_389 f715_390 f715_384 f715_385   ncs ) hZ (ww hw 75 rfl) (ww hw 7 rfl) (by decide) (by decide)) q723a q723c (g := (mkF m 112 (Sh25 q1 q2 q3 q4 q5 3 ((q4 &&& (2147483647 : Int32)) % (4 : Int32)) b519_e0 b711 b519_e0) [(.int 1), (.ref b519_e0)])) rfl (by rw [hml]; rfl) (Steps.refl _) (argsL := [(.int (1 : Int32))]) (rest := []) (lenOf pd_28I29C rfl) rfl (by show 2 * 0 + _ ≤ _; exact Nat.le_of_eq rfl) (hb hby at_112) (fun _ _ => ⟨rfl, e722, (by decide : 4 + 0 ≤ _), (by decide : 12 + 0 ≤ _)⟩)
    dsimp only [Pt.U, Pt.locs, Pt.cells, Pt.slots] at X723 l723 y723 z723 st723 hQ723
    subst l723 y723 z723
    obtain ⟨rfl, N723q, e723⟩ := hQ723
    have N723 := Fr.app N722 N723q
    refine GoV.sg (mkF m 115 (Sh25 q1 q2 q3 q4 q5 3 ((q4 &&& (2147483647 : Int32)) % (4 : Int32)) b519_e0 b711 b519_e0) [(.int (nar .char (nar .char ((lat8 (chB q1)) &&& (255 : Int32)).toUInt32.toUInt16.toUInt32.toInt32)))]) (fun t k => st723.trans k) ?_
    rw [show (nar .char (nar .char ((lat8 (chB q1)) &&& (255 : Int32)).toUInt32.toUInt16.toUInt32.toInt32)) = (chB q1) from (own_back _ (own_rB q1))]
    refine GoV.sg (mkF m 116 (Sh25 q1 q2 q3 q4 q5 3 ((q4 &&& (2147483647 : Int32)) % (4 : Int32)) b519_e0 b711 b519_e0) [(.int q1), (.int (chB q1))]) (fun t k => XS.iloadN X723.here hx rfl (hb hby at_115) rfl k) ?_
    refine GoV.sg (mkF m 118 (Sh25 q1 q2 q3 q4 q5 3 ((q4 &&& (2147483647 : Int32)) % (4 : Int32)) b519_e0 b711 b519_e0) [(.int 8), (.int q1), (.int (chB q1))]) (fun t k => XS.bipush X723.here hx rfl (hb hby at_116) k) ?_
    refine GoV.sg (mkF m 119 (Sh25 q1 q2 q3 q4 q5 3 ((q4 &&& (2147483647 : Int32)) % (4 : Int32)) b519_e0 b711 b519_e0) [(.int (q1.toUInt32 >>> ((8 : Int32) &&& 31).toUInt32).toInt32), (.int (chB q1))]) (fun t k => XS.iushr X723.here hx rfl (hb hby at_118) rfl k) ?_
    refine GoV.sg (mkF m 122 (Sh25 q1 q2 q3 q4 q5 3 ((q4 &&& (2147483647 : Int32)) % (4 : Int32)) b519_e0 b711 b519_e0) [(.int 255), (.int (q1.toUInt32 >>> ((8 : Int32) &&& 31).toUInt32).toInt32), (.int (chB q1))]) (fun t k => XS.sipush X723.here hx rfl (hb hby at_119) k) ?_
    refine GoV.sg (mkF m 123 (Sh25 q1 q2 q3 q4 q5 3 ((q4 &&& (2147483647 : Int32)) % (4 : Int32)) b519_e0 b711 b519_e0) [(.int ((q1.toUInt32 >>> ((8 : Int32) &&& 31).toUInt32).toInt32 &&& (255 : Int32))), (.int (chB q1))]) (fun t k => XS.iand X723.here hx rfl (hb hby at_122) rfl k) ?_
    refine GoV.sg (mkF m 124 (Sh25 q1 q2 q3 q4 q5 3 ((q4 &&& (2147483647 : Int32)) % (4 : Int32)) b519_e0 b711 b519_e0) [(.int ((q1.toUInt32 >>> ((8 : Int32) &&& 31).toUInt32).toInt32 &&& (255 : Int32)).toUInt32.toUInt16.toUInt32.toInt32), (.int (chB q1))]) (fun t k => XS.i2c X723.here hx rfl (hb hby at_123) rfl k) ?_
    rw [own_cB q1]
    show GoV p e below s (ValQ (.int (1 : Int32)) n0) room_1.cells room_1.slots (T723.setTop (mkF m 124 (Sh25 q1 q2 q3 q4 q5 3 ((q4 &&& (2147483647 : Int32)) % (4 : Int32)) b519_e0 b711 b519_e0) [(.int (chB q1)), (.int (chB q1))]))
    refine GoV.sg (mkF m 129 (Sh25 q1 q2 q3 q4 q5 3 ((q4 &&& (2147483647 : Int32)) % (4 : Int32)) b519_e0 b711 b519_e0) []) (fun t k => XS.icmpYes X723.here hx rfl (pc0 := 124) (pc' := 129) rfl (hb hby at_124) rfl (teq rfl).1 (by decide) (by decide) k) ?_
    refine GoV.sg (mkF m 131 (Sh25 q1 q2 q3 q4 q5 3 ((q4 &&& (2147483647 : Int32)) % (4 : Int32)) b519_e0 b711 b519_e0) [(.int 3)]) (fun t k => XS.iload X723.here hx rfl (hb hby at_129) rfl k) ?_
    refine GoV.sg (mkF m 132 (Sh25 q1 q2 q3 q4 q5 3 ((q4 &&& (2147483647 : Int32)) % (4 : Int32)) b519_e0 b711 b519_e0) [(.int 3), (.int 3)]) (fun t k => XS.iconst X723.here hx rfl (hb hby at_131) k) ?_
    refine GoV.sg (mkF m 135 (Sh25 q1 q2 q3 q4 q5 3 ((q4 &&& (2147483647 : Int32)) % (4 : Int32)) b519_e0 b711 b519_e0) []) (fun t k => XS.icmpNo X723.here hx rfl (hb hby at_132) rfl (by decide) k) ?_
    refine GoV.sg (mkF m 137 (Sh25 q1 q2 q3 q4 q5 3 ((q4 &&& (2147483647 : Int32)) % (4 : Int32)) b519_e0 b711 b519_e0) [(.ref b519_e0)]) (fun t k => XS.aload X723.here hx rfl (hb hby at_135) rfl rfl k) ?_
    refine GoV.sg (mkF m 138 (Sh25 q1 q2 q3 q4 q5 3 ((q4 &&& (2147483647 : Int32)) % (4 : Int32)) b519_e0 b711 b519_e0) [(.int 2), (.ref b519_e0)]) (fun t k => XS.iconst X723.here hx rfl (hb hby at_137) k) ?_
    obtain ⟨cq724, kq724, q724a, q724b, q724c⟩ := isOf hZ e723 f715_387
    obtain ⟨_, _, ⟨T724, L724, k724, n724⟩, -, X724, ⟨Lc724, hQ724, l724, y724, z724⟩, st724⟩ := X723.virtualBack hx (y := Y14) (z := Y14) hown (mvT hZ (ww hw 71 rfl)) (mvT hZ (ww hw 72 rfl)) (notFace_of_selects (args := #[]) (mvT hZ (ww hw 74 rfl))) (mvT hZ (ww hw 74 rfl)) (mvT hZ (ww hw 73 rfl)) (by decide) (backOf (W := 0) (rm14_68 l Z a0 hw [] b519_e0 b519_e1 k519_ke1 (lat8 (chA q1)) (lat8 (chB q1)) (lat8 (chC q1)) cs T715.heap n0  f715_387 f715_388 f715_389 f715_390 f715_384 f715_385   ncs ) hZ (ww hw 75 rfl) (ww hw 7 rfl) (by decide) (by decide)) q724a q724c (g := (mkF m 138 (Sh25 q1 q2 q3 q4 q5 3 ((q4 &&& (2147483647 : Int32)) % (4 : Int32)) b519_e0 b711 b519_e0) [(.int 2), (.ref b519_e0)])) rfl (by rw [hml]; rfl) (Steps.refl _) (argsL := [(.int (2 : Int32))]) (rest := []) (lenOf pd_28I29C rfl) rfl (by show 2 * 0 + _ ≤ _; exact Nat.le_of_eq rfl) (hb hby at_138) (fun _ _ => ⟨rfl, e723, (by decide : 4 + 0 ≤ _), (by decide : 12 + 0 ≤ _)⟩)
    dsimp only [Pt.U, Pt.locs, Pt.cells, Pt.slots] at X724 l724 y724 z724 st724 hQ724
    subst l724 y724 z724
    obtain ⟨rfl, N724q, e724⟩ := hQ724
    have N724 := Fr.app N723 N724q
    refine GoV.sg (mkF m 141 (Sh25 q1 q2 q3 q4 q5 3 ((q4 &&& (2147483647 : Int32)) % (4 : Int32)) b519_e0 b711 b519_e0) [(.int (nar .char (nar .char ((lat8 (chC q1)) &&& (255 : Int32)).toUInt32.toUInt16.toUInt32.toInt32)))]) (fun t k => st724.trans k) ?_
    rw [show (nar .char (nar .char ((lat8 (chC q1)) &&& (255 : Int32)).toUInt32.toUInt16.toUInt32.toInt32)) = (chC q1) from (own_back _ (own_rC q1))]
    refine GoV.sg (mkF m 142 (Sh25 q1 q2 q3 q4 q5 3 ((q4 &&& (2147483647 : Int32)) % (4 : Int32)) b519_e0 b711 b519_e0) [(.int q1), (.int (chC q1))]) (fun t k => XS.iloadN X724.here hx rfl (hb hby at_141) rfl k) ?_
    refine GoV.sg (mkF m 144 (Sh25 q1 q2 q3 q4 q5 3 ((q4 &&& (2147483647 : Int32)) % (4 : Int32)) b519_e0 b711 b519_e0) [(.int 16), (.int q1), (.int (chC q1))]) (fun t k => XS.bipush X724.here hx rfl (hb hby at_142) k) ?_
    refine GoV.sg (mkF m 145 (Sh25 q1 q2 q3 q4 q5 3 ((q4 &&& (2147483647 : Int32)) % (4 : Int32)) b519_e0 b711 b519_e0) [(.int (q1.toUInt32 >>> ((16 : Int32) &&& 31).toUInt32).toInt32), (.int (chC q1))]) (fun t k => XS.iushr X724.here hx rfl (hb hby at_144) rfl k) ?_
    refine GoV.sg (mkF m 148 (Sh25 q1 q2 q3 q4 q5 3 ((q4 &&& (2147483647 : Int32)) % (4 : Int32)) b519_e0 b711 b519_e0) [(.int 255), (.int (q1.toUInt32 >>> ((16 : Int32) &&& 31).toUInt32).toInt32), (.int (chC q1))]) (fun t k => XS.sipush X724.here hx rfl (hb hby at_145) k) ?_
    refine GoV.sg (mkF m 149 (Sh25 q1 q2 q3 q4 q5 3 ((q4 &&& (2147483647 : Int32)) % (4 : Int32)) b519_e0 b711 b519_e0) [(.int ((q1.toUInt32 >>> ((16 : Int32) &&& 31).toUInt32).toInt32 &&& (255 : Int32))), (.int (chC q1))]) (fun t k => XS.iand X724.here hx rfl (hb hby at_148) rfl k) ?_
    refine GoV.sg (mkF m 150 (Sh25 q1 q2 q3 q4 q5 3 ((q4 &&& (2147483647 : Int32)) % (4 : Int32)) b519_e0 b711 b519_e0) [(.int ((q1.toUInt32 >>> ((16 : Int32) &&& 31).toUInt32).toInt32 &&& (255 : Int32)).toUInt32.toUInt16.toUInt32.toInt32), (.int (chC q1))]) (fun t k => XS.i2c X724.here hx rfl (hb hby at_149) rfl k) ?_
    rw [own_cC q1]
    show GoV p e below s (ValQ (.int (1 : Int32)) n0) room_1.cells room_1.slots (T724.setTop (mkF m 150 (Sh25 q1 q2 q3 q4 q5 3 ((q4 &&& (2147483647 : Int32)) % (4 : Int32)) b519_e0 b711 b519_e0) [(.int (chC q1)), (.int (chC q1))]))
    refine GoV.sg (mkF m 155 (Sh25 q1 q2 q3 q4 q5 3 ((q4 &&& (2147483647 : Int32)) % (4 : Int32)) b519_e0 b711 b519_e0) []) (fun t k => XS.icmpYes X724.here hx rfl (pc0 := 150) (pc' := 155) rfl (hb hby at_150) rfl (teq rfl).1 (by decide) (by decide) k) ?_
    refine GoV.sg (mkF m 156 (Sh25 q1 q2 q3 q4 q5 3 ((q4 &&& (2147483647 : Int32)) % (4 : Int32)) b519_e0 b711 b519_e0) [(.int 1)]) (fun t k => XS.iconst X724.here hx rfl (hb hby at_155) k) ?_
    refine GoV.retN X724 hS0 (by rw [e724]; exact f715_386) hx (t := .boolean) Bd.returns (by simp) (hb hby at_156) Bd.notSynchronized ?_ (by decide) (by decide)
    exact ⟨rfl, N724⟩
   ·show GoV p e below s (ValQ (.int (1 : Int32)) n0) room_1.cells room_1.slots (T721.setTop (mkF m 86 (Sh25 q1 q2 q3 q4 q5 3 ((q4 &&& (2147483647 : Int32)) % (4 : Int32)) b519_e0 b711 b519_e0) []))
    refine GoV.sg (mkF m 88 (Sh25 q1 q2 q3 q4 q5 3 ((q4 &&& (2147483647 : Int32)) % (4 : Int32)) b519_e0 b711 b519_e0) [(.ref b519_e0)]) (fun t k => XS.aload X721.here hx rfl (hb hby at_86) rfl rfl k) ?_
    refine GoV.sg (mkF m 89 (Sh25 q1 q2 q3 q4 q5 3 ((q4 &&& (2147483647 : Int32)) % (4 : Int32)) b519_e0 b711 b519_e0) [(.int 0), (.ref b519_e0)]) (fun t k => XS.iconst X721.here hx rfl (hb hby at_88) k) ?_
    obtain ⟨cq725, kq725, q725a, q725b, q725c⟩ := isOf hZ e721 f715_387
    obtain ⟨_, _, ⟨T725, L725, k725, n725⟩, -, X725, ⟨Lc725, hQ725, l725, y725, z725⟩, st725⟩ := X721.virtualBack hx (y := Y14) (z := Y14) hown (mvT hZ (ww hw 71 rfl)) (mvT hZ (ww hw 72 rfl)) (notFace_of_selects (args := #[]) (mvT hZ (ww hw 74 rfl))) (mvT hZ (ww hw 74 rfl)) (mvT hZ (ww hw 73 rfl)) (by decide) (backOf (W := 0) (rm14_72 l Z a0 hw [] b519_e0 b519_e1 k519_ke1 (lat8 (chA q1)) (lat8 (chB q1)) (lat8 (chC q1)) cs af T715.heap n0  f715_387 f715_388 f715_389 f715_390 f715_384 f715_385   ncs ) hZ (ww hw 75 rfl) (ww hw 7 rfl) (by decide) (by decide)) q725a q725c (g := (mkF m 89 (Sh25 q1 q2 q3 q4 q5 3 ((q4 &&& (2147483647 : Int32)) % (4 : Int32)) b519_e0 b711 b519_e0) [(.int 0), (.ref b519_e0)])) rfl (by rw [hml]; rfl) (Steps.refl _) (argsL := [(.int (0 : Int32))]) (rest := []) (lenOf pd_28I29C rfl) rfl (by show 2 * 0 + _ ≤ _; exact Nat.le_of_eq rfl) (hb hby at_89) (fun _ _ => ⟨rfl, e721, (by decide : 4 + 0 ≤ _), (by decide : 12 + 0 ≤ _)⟩)
    dsimp only [Pt.U, Pt.locs, Pt.cells, Pt.slots] at X725 l725 y725 z725 st725 hQ725
    subst l725 y725 z725
    obtain ⟨rfl, N725q, e725⟩ := hQ725
    have N725 := Fr.app N721 N725q
    refine GoV.sg (mkF m 92 (Sh25 q1 q2 q3 q4 q5 3 ((q4 &&& (2147483647 : Int32)) % (4 : Int32)) b519_e0 b711 b519_e0) [(.int (nar .char (nar .char ((lat8 (chA q1)) &&& (255 : Int32)).toUInt32.toUInt16.toUInt32.toInt32)))]) (fun t k => st725.trans k) ?_
    rw [show (nar .char (nar .char ((lat8 (chA q1)) &&& (255 : Int32)).toUInt32.toUInt16.toUInt32.toInt32)) = (chA q1) from (own_back _ (own_rA q1))]
    refine GoV.sg (mkF m 93 (Sh25 q1 q2 q3 q4 q5 3 ((q4 &&& (2147483647 : Int32)) % (4 : Int32)) b519_e0 b711 b519_e0) [(.int q1), (.int (chA q1))]) (fun t k => XS.iloadN X725.here hx rfl (hb hby at_92) rfl k) ?_
    refine GoV.sg (mkF m 96 (Sh25 q1 q2 q3 q4 q5 3 ((q4 &&& (2147483647 : Int32)) % (4 : Int32)) b519_e0 b711 b519_e0) [(.int 255), (.int q1), (.int (chA q1))]) (fun t k => XS.sipush X725.here hx rfl (hb hby at_93) k) ?_
    refine GoV.sg (mkF m 97 (Sh25 q1 q2 q3 q4 q5 3 ((q4 &&& (2147483647 : Int32)) % (4 : Int32)) b519_e0 b711 b519_e0) [(.int (q1 &&& (255 : Int32))), (.int (chA q1))]) (fun t k => XS.iand X725.here hx rfl (hb hby at_96) rfl k) ?_
    refine GoV.sg (mkF m 98 (Sh25 q1 q2 q3 q4 q5 3 ((q4 &&& (2147483647 : Int32)) % (4 : Int32)) b519_e0 b711 b519_e0) [(.int (q1 &&& (255 : Int32)).toUInt32.toUInt16.toUInt32.toInt32), (.int (chA q1))]) (fun t k => XS.i2c X725.here hx rfl (hb hby at_97) rfl k) ?_
    rw [own_cA q1]
    show GoV p e below s (ValQ (.int (1 : Int32)) n0) room_1.cells room_1.slots (T725.setTop (mkF m 98 (Sh25 q1 q2 q3 q4 q5 3 ((q4 &&& (2147483647 : Int32)) % (4 : Int32)) b519_e0 b711 b519_e0) [(.int (chA q1)), (.int (chA q1))]))
    refine GoV.sg (mkF m 103 (Sh25 q1 q2 q3 q4 q5 3 ((q4 &&& (2147483647 : Int32)) % (4 : Int32)) b519_e0 b711 b519_e0) []) (fun t k => XS.icmpYes X725.here hx rfl (pc0 := 98) (pc' := 103) rfl (hb hby at_98) rfl (teq rfl).1 (by decide) (by decide) k) ?_
    refine GoV.sg (mkF m 105 (Sh25 q1 q2 q3 q4 q5 3 ((q4 &&& (2147483647 : Int32)) % (4 : Int32)) b519_e0 b711 b519_e0) [(.int 3)]) (fun t k => XS.iload X725.here hx rfl (hb hby at_103) rfl k) ?_
    refine GoV.sg (mkF m 106 (Sh25 q1 q2 q3 q4 q5 3 ((q4 &&& (2147483647 : Int32)) % (4 : Int32)) b519_e0 b711 b519_e0) [(.int 2), (.int 3)]) (fun t k => XS.iconst X725.here hx rfl (hb hby at_105) k) ?_
    refine GoV.sg (mkF m 109 (Sh25 q1 q2 q3 q4 q5 3 ((q4 &&& (2147483647 : Int32)) % (4 : Int32)) b519_e0 b711 b519_e0) []) (fun t k => XS.icmpNo X725.here hx rfl (hb hby at_106) rfl (by decide) k) ?_
    refine GoV.sg (mkF m 111 (Sh25 q1 q2 q3 q4 q5 3 ((q4 &&& (2147483647 : Int32)) % (4 : Int32)) b519_e0 b711 b519_e0) [(.ref b519_e0)]) (fun t k => XS.aload X725.here hx rfl (hb hby at_109) rfl rfl k) ?_
    refine GoV.sg (mkF m 112 (Sh25 q1 q2 q3 q4 q5 3 ((q4 &&& (2147483647 : Int32)) % (4 : Int32)) b519_e0 b711 b519_e0) [(.int 1), (.ref b519_e0)]) (fun t k => XS.iconst X725.here hx rfl (hb hby at_111) k) ?_
    obtain ⟨cq726, kq726, q726a, q726b, q726c⟩ := isOf hZ e725 f715_387
    obtain ⟨_, _, ⟨T726, L726, k726, n726⟩, -, X726, ⟨Lc726, hQ726, l726, y726, z726⟩, st726⟩ := X725.virtualBack hx (y := Y14) (z := Y14) hown (mvT hZ (ww hw 71 rfl)) (mvT hZ (ww hw 72 rfl)) (notFace_of_selects (args := #[]) (mvT hZ (ww hw 74 rfl))) (mvT hZ (ww hw 74 rfl)) (mvT hZ (ww hw 73 rfl)) (by decide) (backOf (W := 0) (rm14_76 l Z a0 hw [] b519_e0 b519_e1 k519_ke1 (lat8 (chA q1)) (lat8 (chB q1)) (lat8 (chC q1)) cs af T715.heap n0  f715_387 f715_388 f715_389 f715_390 f715_384 f715_385   ncs ) hZ (ww hw 75 rfl) (ww hw 7 rfl) (by decide) (by decide)) q726a q726c (g := (mkF m 112 (Sh25 q1 q2 q3 q4 q5 3 ((q4 &&& (2147483647 : Int32)) % (4 : Int32)) b519_e0 b711 b519_e0) [(.int 1), (.ref b519_e0)])) rfl (by rw [hml]; rfl) (Steps.refl _) (argsL := [(.int (1 : Int32))]) (rest := []) (lenOf pd_28I29C rfl) rfl (by show 2 * 0 + _ ≤ _; exact Nat.le_of_eq rfl) (hb hby at_112) (fun _ _ => ⟨rfl, e725, (by decide : 4 + 0 ≤ _), (by decide : 12 + 0 ≤ _)⟩)
    dsimp only [Pt.U, Pt.locs, Pt.cells, Pt.slots] at X726 l726 y726 z726 st726 hQ726
    subst l726 y726 z726
    obtain ⟨rfl, N726q, e726⟩ := hQ726
    have N726 := Fr.app N725 N726q
    refine GoV.sg (mkF m 115 (Sh25 q1 q2 q3 q4 q5 3 ((q4 &&& (2147483647 : Int32)) % (4 : Int32)) b519_e0 b711 b519_e0) [(.int (nar .char (nar .char ((lat8 (chB q1)) &&& (255 : Int32)).toUInt32.toUInt16.toUInt32.toInt32)))]) (fun t k => st726.trans k) ?_
    rw [show (nar .char (nar .char ((lat8 (chB q1)) &&& (255 : Int32)).toUInt32.toUInt16.toUInt32.toInt32)) = (chB q1) from (own_back _ (own_rB q1))]
    refine GoV.sg (mkF m 116 (Sh25 q1 q2 q3 q4 q5 3 ((q4 &&& (2147483647 : Int32)) % (4 : Int32)) b519_e0 b711 b519_e0) [(.int q1), (.int (chB q1))]) (fun t k => XS.iloadN X726.here hx rfl (hb hby at_115) rfl k) ?_
    refine GoV.sg (mkF m 118 (Sh25 q1 q2 q3 q4 q5 3 ((q4 &&& (2147483647 : Int32)) % (4 : Int32)) b519_e0 b711 b519_e0) [(.int 8), (.int q1), (.int (chB q1))]) (fun t k => XS.bipush X726.here hx rfl (hb hby at_116) k) ?_
    refine GoV.sg (mkF m 119 (Sh25 q1 q2 q3 q4 q5 3 ((q4 &&& (2147483647 : Int32)) % (4 : Int32)) b519_e0 b711 b519_e0) [(.int (q1.toUInt32 >>> ((8 : Int32) &&& 31).toUInt32).toInt32), (.int (chB q1))]) (fun t k => XS.iushr X726.here hx rfl (hb hby at_118) rfl k) ?_
    refine GoV.sg (mkF m 122 (Sh25 q1 q2 q3 q4 q5 3 ((q4 &&& (2147483647 : Int32)) % (4 : Int32)) b519_e0 b711 b519_e0) [(.int 255), (.int (q1.toUInt32 >>> ((8 : Int32) &&& 31).toUInt32).toInt32), (.int (chB q1))]) (fun t k => XS.sipush X726.here hx rfl (hb hby at_119) k) ?_
    refine GoV.sg (mkF m 123 (Sh25 q1 q2 q3 q4 q5 3 ((q4 &&& (2147483647 : Int32)) % (4 : Int32)) b519_e0 b711 b519_e0) [(.int ((q1.toUInt32 >>> ((8 : Int32) &&& 31).toUInt32).toInt32 &&& (255 : Int32))), (.int (chB q1))]) (fun t k => XS.iand X726.here hx rfl (hb hby at_122) rfl k) ?_
    refine GoV.sg (mkF m 124 (Sh25 q1 q2 q3 q4 q5 3 ((q4 &&& (2147483647 : Int32)) % (4 : Int32)) b519_e0 b711 b519_e0) [(.int ((q1.toUInt32 >>> ((8 : Int32) &&& 31).toUInt32).toInt32 &&& (255 : Int32)).toUInt32.toUInt16.toUInt32.toInt32), (.int (chB q1))]) (fun t k => XS.i2c X726.here hx rfl (hb hby at_123) rfl k) ?_
    rw [own_cB q1]
    show GoV p e below s (ValQ (.int (1 : Int32)) n0) room_1.cells room_1.slots (T726.setTop (mkF m 124 (Sh25 q1 q2 q3 q4 q5 3 ((q4 &&& (2147483647 : Int32)) % (4 : Int32)) b519_e0 b711 b519_e0) [(.int (chB q1)), (.int (chB q1))]))
    refine GoV.sg (mkF m 129 (Sh25 q1 q2 q3 q4 q5 3 ((q4 &&& (2147483647 : Int32)) % (4 : Int32)) b519_e0 b711 b519_e0) []) (fun t k => XS.icmpYes X726.here hx rfl (pc0 := 124) (pc' := 129) rfl (hb hby at_124) rfl (teq rfl).1 (by decide) (by decide) k) ?_
    refine GoV.sg (mkF m 131 (Sh25 q1 q2 q3 q4 q5 3 ((q4 &&& (2147483647 : Int32)) % (4 : Int32)) b519_e0 b711 b519_e0) [(.int 3)]) (fun t k => XS.iload X726.here hx rfl (hb hby at_129) rfl k) ?_
    refine GoV.sg (mkF m 132 (Sh25 q1 q2 q3 q4 q5 3 ((q4 &&& (2147483647 : Int32)) % (4 : Int32)) b519_e0 b711 b519_e0) [(.int 3), (.int 3)]) (fun t k => XS.iconst X726.here hx rfl (hb hby at_131) k) ?_
    refine GoV.sg (mkF m 135 (Sh25 q1 q2 q3 q4 q5 3 ((q4 &&& (2147483647 : Int32)) % (4 : Int32)) b519_e0 b711 b519_e0) []) (fun t k => XS.icmpNo X726.here hx rfl (hb hby at_132) rfl (by decide) k) ?_
    refine GoV.sg (mkF m 137 (Sh25 q1 q2 q3 q4 q5 3 ((q4 &&& (2147483647 : Int32)) % (4 : Int32)) b519_e0 b711 b519_e0) [(.ref b519_e0)]) (fun t k => XS.aload X726.here hx rfl (hb hby at_135) rfl rfl k) ?_
    refine GoV.sg (mkF m 138 (Sh25 q1 q2 q3 q4 q5 3 ((q4 &&& (2147483647 : Int32)) % (4 : Int32)) b519_e0 b711 b519_e0) [(.int 2), (.ref b519_e0)]) (fun t k => XS.iconst X726.here hx rfl (hb hby at_137) k) ?_
    obtain ⟨cq727, kq727, q727a, q727b, q727c⟩ := isOf hZ e726 f715_387
    obtain ⟨_, _, ⟨T727, L727, k727, n727⟩, -, X727, ⟨Lc727, hQ727, l727, y727, z727⟩, st727⟩ := X726.virtualBack hx (y := Y14) (z := Y14) hown (mvT hZ (ww hw 71 rfl)) (mvT hZ (ww hw 72 rfl)) (notFace_of_selects (args := #[]) (mvT hZ (ww hw 74 rfl))) (mvT hZ (ww hw 74 rfl)) (mvT hZ (ww hw 73 rfl)) (by decide) (backOf (W := 0) (rm14_80 l Z a0 hw [] b519_e0 b519_e1 k519_ke1 (lat8 (chA q1)) (lat8 (chB q1)) (lat8 (chC q1)) cs af T715.heap n0  f715_387 f715_388 f715_389 f715_390 f715_384 f715_385   ncs ) hZ (ww hw 75 rfl) (ww hw 7 rfl) (by decide) (by decide)) q727a q727c (g := (mkF m 138 (Sh25 q1 q2 q3 q4 q5 3 ((q4 &&& (2147483647 : Int32)) % (4 : Int32)) b519_e0 b711 b519_e0) [(.int 2), (.ref b519_e0)])) rfl (by rw [hml]; rfl) (Steps.refl _) (argsL := [(.int (2 : Int32))]) (rest := []) (lenOf pd_28I29C rfl) rfl (by show 2 * 0 + _ ≤ _; exact Nat.le_of_eq rfl) (hb hby at_138) (fun _ _ => ⟨rfl, e726, (by decide : 4 + 0 ≤ _), (by decide : 12 + 0 ≤ _)⟩)
    dsimp only [Pt.U, Pt.locs, Pt.cells, Pt.slots] at X727 l727 y727 z727 st727 hQ727
    subst l727 y727 z727
    obtain ⟨rfl, N727q, e727⟩ := hQ727
    have N727 := Fr.app N726 N727q
    refine GoV.sg (mkF m 141 (Sh25 q1 q2 q3 q4 q5 3 ((q4 &&& (2147483647 : Int32)) % (4 : Int32)) b519_e0 b711 b519_e0) [(.int (nar .char (nar .char ((lat8 (chC q1)) &&& (255 : Int32)).toUInt32.toUInt16.toUInt32.toInt32)))]) (fun t k => st727.trans k) ?_
    rw [show (nar .char (nar .char ((lat8 (chC q1)) &&& (255 : Int32)).toUInt32.toUInt16.toUInt32.toInt32)) = (chC q1) from (own_back _ (own_rC q1))]
    refine GoV.sg (mkF m 142 (Sh25 q1 q2 q3 q4 q5 3 ((q4 &&& (2147483647 : Int32)) % (4 : Int32)) b519_e0 b711 b519_e0) [(.int q1), (.int (chC q1))]) (fun t k => XS.iloadN X727.here hx rfl (hb hby at_141) rfl k) ?_
    refine GoV.sg (mkF m 144 (Sh25 q1 q2 q3 q4 q5 3 ((q4 &&& (2147483647 : Int32)) % (4 : Int32)) b519_e0 b711 b519_e0) [(.int 16), (.int q1), (.int (chC q1))]) (fun t k => XS.bipush X727.here hx rfl (hb hby at_142) k) ?_
    refine GoV.sg (mkF m 145 (Sh25 q1 q2 q3 q4 q5 3 ((q4 &&& (2147483647 : Int32)) % (4 : Int32)) b519_e0 b711 b519_e0) [(.int (q1.toUInt32 >>> ((16 : Int32) &&& 31).toUInt32).toInt32), (.int (chC q1))]) (fun t k => XS.iushr X727.here hx rfl (hb hby at_144) rfl k) ?_
    refine GoV.sg (mkF m 148 (Sh25 q1 q2 q3 q4 q5 3 ((q4 &&& (2147483647 : Int32)) % (4 : Int32)) b519_e0 b711 b519_e0) [(.int 255), (.int (q1.toUInt32 >>> ((16 : Int32) &&& 31).toUInt32).toInt32), (.int (chC q1))]) (fun t k => XS.sipush X727.here hx rfl (hb hby at_145) k) ?_
    refine GoV.sg (mkF m 149 (Sh25 q1 q2 q3 q4 q5 3 ((q4 &&& (2147483647 : Int32)) % (4 : Int32)) b519_e0 b711 b519_e0) [(.int ((q1.toUInt32 >>> ((16 : Int32) &&& 31).toUInt32).toInt32 &&& (255 : Int32))), (.int (chC q1))]) (fun t k => XS.iand X727.here hx rfl (hb hby at_148) rfl k) ?_
    refine GoV.sg (mkF m 150 (Sh25 q1 q2 q3 q4 q5 3 ((q4 &&& (2147483647 : Int32)) % (4 : Int32)) b519_e0 b711 b519_e0) [(.int ((q1.toUInt32 >>> ((16 : Int32) &&& 31).toUInt32).toInt32 &&& (255 : Int32)).toUInt32.toUInt16.toUInt32.toInt32), (.int (chC q1))]) (fun t k => XS.i2c X727.here hx rfl (hb hby at_149) rfl k) ?_
    rw [own_cC q1]
    show GoV p e below s (ValQ (.int (1 : Int32)) n0) room_1.cells room_1.slots (T727.setTop (mkF m 150 (Sh25 q1 q2 q3 q4 q5 3 ((q4 &&& (2147483647 : Int32)) % (4 : Int32)) b519_e0 b711 b519_e0) [(.int (chC q1)), (.int (chC q1))]))
    refine GoV.sg (mkF m 155 (Sh25 q1 q2 q3 q4 q5 3 ((q4 &&& (2147483647 : Int32)) % (4 : Int32)) b519_e0 b711 b519_e0) []) (fun t k => XS.icmpYes X727.here hx rfl (pc0 := 150) (pc' := 155) rfl (hb hby at_150) rfl (teq rfl).1 (by decide) (by decide) k) ?_
    refine GoV.sg (mkF m 156 (Sh25 q1 q2 q3 q4 q5 3 ((q4 &&& (2147483647 : Int32)) % (4 : Int32)) b519_e0 b711 b519_e0) [(.int 1)]) (fun t k => XS.iconst X727.here hx rfl (hb hby at_155) k) ?_
    refine GoV.retN X727 hS0 (by rw [e727]; exact f715_386) hx (t := .boolean) Bd.returns (by simp) (hb hby at_156) Bd.notSynchronized ?_ (by decide) (by decide)
    exact ⟨rfl, N727⟩

set_option maxRecDepth 65536 in
set_option maxHeartbeats 40000000 in
theorem comes_1 {Post : Tables → Env → Array Value → State → Outcome → State → Prop} (hpost : ∀ tb e args s v u, (limb_1_1.after args s (.returned v) u = true ∧ limb_1_2.after args s (.returned v) u = true ∧ True) → ReturnedEndW s (.returned v) u (Jvm.fieldLocs frame_1_writes args s ++ Jvm.arrayLocs frame_1_arrays args s ++ Jvm.staticLocs frame_1_statics s) 24 1152 → Post tb e args s (.returned v) u) :
    ArmFor flags0 classFile x code maxLocals ret World_1 tables_1 room_1 Calls_1 rest_1 Pre_1 Post := by
  intro l hfl _ _ p e ha hc hk s m args below hf hA hF happ hP
  obtain ⟨hcalls, hrest, hpre⟩ := hP
  obtain ⟨-, -, -, hnamed, -, -, -, hat⟩ := (Spec.applies_iff hf).mp happ
  obtain ⟨hg, hn⟩ := and_e (Cond.before_iff.mp (show (Jvm.Cond.and given_1 narrow_1).before args s = true from hpre))
  obtain ⟨ga0, gb0⟩ := and_e hg
  obtain ⟨ga1, gb1⟩ := and_e gb0
  obtain ⟨ga2, gb2⟩ := and_e gb1
  obtain ⟨ga3, gb3⟩ := and_e gb2
  obtain ⟨ga4, gb4⟩ := and_e gb3
  obtain ⟨w0, w1, w2, w3, w4, rfl⟩ : ∃ w0 w1 w2 w3 w4 : Value, args = #[w0, w1, w2, w3, w4] := by
    have hs : args.size = 5 := by simpa [Cond.value, given_1] using ga0
    obtain ⟨L⟩ := args
    match L, hs with
    | [w0, w1, w2, w3, w4], _ => exact ⟨w0, w1, w2, w3, w4, rfl⟩
  have hw := fun d (hd : d ∈ tables_1) => atoms_spec (ws := Jvm.Cond.code x code maxLocals ret :: tables_1) hat d (List.mem_cons_of_mem _ hd)
  have hfit : Fit s := fun {y c} hc i hi => by
    obtain ⟨ha, rfl⟩ := Array.getElem?_eq_some_iff.mp hc
    have q := List.all_eq_true.mp ((Array.all_eq_true_iff_forall_mem.mp hF) _ (Array.getElem_mem ha)) i (List.mem_range.mpr hi)
    simpa [Array.getElem?_eq_getElem hi] using q
  obtain ⟨i0, ei0⟩ := is_v ga1
  obtain rfl : w0 = (.int i0) := Option.some.inj ei0
  obtain ⟨i1, ei1⟩ := is_v ga2
  obtain rfl : w1 = (.int i1) := Option.some.inj ei1
  obtain ⟨i2, ei2⟩ := is_v ga3
  obtain rfl : w2 = (.int i2) := Option.some.inj ei2
  obtain ⟨i3, ei3⟩ := is_v ga4
  obtain rfl : w3 = (.int i3) := Option.some.inj ei3
  obtain ⟨i4, ei4⟩ := is_v gb4
  obtain rfl : w4 = (.int i4) := Option.some.inj ei4
  obtain ⟨hsets, hown0⟩ := atoms_of _ (rest_1_c_eq ▸ (show rest_1_c.before _ s = true from hrest))
  have n5 := not_v (Cond.before_iff.mp (hsets _ (List.mem_of_getElem? (i := 2) rfl)))
  obtain ⟨cs, ecs⟩ := is_v (Cond.before_iff.mp (hsets _ (List.mem_of_getElem? (i := 1) rfl)))
  have S0 := Sta.start ecs (Or.inl (hsets _ (List.mem_of_getElem? (i := 0) rfl)))
  have ncs : ¬ (cs = (0 : Int32)) := gotF (Cond.eq_ints ecs (Term.int_eval (0))) n5
  obtain ⟨vf, evf, hvf⟩ := isR_v (Cond.before_iff.mp (hsets _ (List.mem_of_getElem? (i := 8) rfl)))
  have SF := Sta.start evf (Or.inl (hsets _ (List.mem_of_getElem? (i := 7) rfl)))
  have hc7 : Jvm.Lit.constHeld s "java/lang/String" 7 := hcalls.1 ("java/lang/String", 7) (by simp [consts_1])
  obtain ⟨n, o, h1, h2, h3, v, L, rfl, ⟨hv, N⟩, hq⟩ := rm0 l s _ hw tables_1 i0 i1 i2 i3 i4 cs vf s.heap s.heap.size (Nat.le_refl _) S0 SF hvf ncs (Old.start s) hc7 (hsets _ (List.mem_of_getElem? (i := 2) rfl)) p e ha hc hk s m _ below hf ((Spec.applies_iff_loose hf).mp happ).1 ⟨rfl, rfl, rfl⟩ trivial
  subst hv
  refine ⟨n, _, h1, h2, h3, hpost _ _ _ _ _ _ ⟨Cond.after_iff.mpr rfl, Cond.after_iff.mpr (eq_i res_at (Term.int_eval (1)) rfl), trivial⟩ ⟨hq.1, hq.2.1, hq.2.2.1, (hq.2.2.2.sift fun y hy => Or.inr (N y hy)).mono (by decide) (by decide)⟩⟩
theorem main_1_1 : Claimed_1_1 := comes_1 fun _ _ _ _ _ _ h hF => ⟨h.1, hF⟩
theorem main_1_2 : Claimed_1_2 := comes_1 fun _ _ _ _ _ _ h hF => ⟨h.2.1, hF⟩
end Jvm.Pilot.@@N@@
namespace Jvm.Pilot.@@N@@
open Jvm Jvm.ClassFile Sem Op Lib Jvm.Free Jvm.Stand Jvm.Pilot.@@N@@.Jvm.D
/-! MADE BY PROGRAM (witnessworld.py) out of the Statement's table words and the real class files: 21 classes; the members and pool entries that the words name. The judged class is class 1, her method 2. -/
namespace start1
open Jvm.ClassFile
def u (s : String) : CpInfo := .utf8 (stringToUtf16 s)
/-- a pool by its gaps: so many unusable entries, then the entry; so many at the end -/
def gap : Nat → List CpInfo → List CpInfo
  | 0, r => r
  | n + 1, r => .unusable :: gap n r
def poolList (es : List (Nat × CpInfo)) (last : Nat) : List CpInfo := es.foldr (fun e r => gap e.1 (e.2 :: r)) (gap last [])
def pool (es : List (Nat × CpInfo)) (last : Nat) : Array CpInfo := ⟨poolList es last⟩
def fileOf (pool : Array CpInfo) (this : Nat) (attrs : Array Attribute := #[]) (ms : Array MethodInfo := #[]) (fl : Nat := 33) (sup : Nat := 0) (ifs : Array Nat := #[]) (fds : Array FieldInfo := #[]) : ClassFile where
  minorVersion := 0
  majorVersion := 65
  constantPool := pool
  accessFlags := fl
  thisClass := this
  superClass := sup
  interfaces := ifs
  fields := fds
  methods := ms
  attributes := attrs
def plain (name : String) (sup : Option ClassId) : Class where
  name := name
  kind := .ordinary
  loader := none
  accessFlags := 33
  super := sup
  interfaces := #[]
  cf := none
  fields := #[]
  methods := #[]
  instanceTypes := #[]
  staticTypes := #[]
  resolved := #[]
  callSites := []
  init := .initialized
  statics := none
  mirror := none

def pool0 : Array CpInfo := pool [(5, u "<init>"), (0, u "()V"), (1, .class_ 10), (1, u "java/lang/Object")] 113

def k0c0 : Code := { maxStack := 0, maxLocals := 1, code := object_method_1_code, exceptionTable := #[], attributes := #[] }
def k0m0 : Method := { name := "<init>", desc := "()V", sig := { parameters := [], returnType := none }, accessFlags := 1, code := some k0c0 }
/-- java/lang/Object -/
def k0 : Class := { plain "java/lang/Object" none with
  accessFlags := 33
  interfaces := #[]
  cf := some (fileOf pool0 8 #[] #[{ accessFlags := 1, nameIndex := 5, descriptorIndex := 6, attributes := #[] }] 33 0 #[] #[])
  fields := #[]
  methods := #[k0m0]
  instanceTypes := #[]
  staticTypes := #[]
  resolved := Array.replicate 124 none
  statics := none }

def pool1 : Array CpInfo := pool [(2, .class_ 4), (1, u "java/lang/Object"), (0, u "<init>"), (0, u "()V"), (0, .class_ 8), (0, u "java/lang/String"), (0, .methodref 7 10), (0, .nameAndType 5 11), (0, u "([C)V"), (0, .integer 2147483647), (0, .methodref 14 15), (0, .class_ 16), (0, .nameAndType 17 18), (0, u "com/example/relaystack/relaystack/OptionValuePinLaw"), (0, u "drawn"), (0, u "(II)Ljava/lang/String;"), (0, .class_ 20), (0, u "com/example/relaystack/relaystack/CommandLine$Option"), (0, .methodref 19 22), (0, .nameAndType 5 23), (0, u "(Ljava/lang/String;Ljava/lang/String;)V"), (0, .methodref 19 25), (0, .nameAndType 26 27), (0, u "value"), (0, u "()Ljava/lang/String;"), (0, .methodref 7 29), (0, .nameAndType 30 31), (0, u "length"), (0, u "()I"), (0, .methodref 7 33), (0, .nameAndType 34 35), (0, u "charAt"), (0, u "(I)C"), (3, u "law"), (0, u "(IIIII)Z")] 6

def k1m0 : Method := { name := "<init>", desc := "()V", sig := { parameters := [], returnType := none }, accessFlags := 1, code := none }
def k1c1 : Code := { maxStack := 6, maxLocals := 5, code := method_2_code, exceptionTable := #[], attributes := #[] }
def k1m1 : Method := { name := "drawn", desc := "(II)Ljava/lang/String;", sig := { parameters := [.int, .int], returnType := some (.object "java/lang/String") }, accessFlags := 10, code := some k1c1 }
def k1c2 : Code := { maxStack := 4, maxLocals := 11, code := code, exceptionTable := #[], attributes := #[] }
def k1m2 : Method := { name := "law", desc := "(IIIII)Z", sig := { parameters := [.int, .int, .int, .int, .int], returnType := some .boolean }, accessFlags := 9, code := some k1c2 }
/-- com/example/relaystack/relaystack/OptionValuePinLaw -/
def k1 : Class := { plain "com/example/relaystack/relaystack/OptionValuePinLaw" (some 0) with
  accessFlags := 49
  interfaces := #[]
  cf := some (fileOf pool1 14 #[] #[{ accessFlags := 1, nameIndex := 5, descriptorIndex := 6, attributes := #[] }, { accessFlags := 10, nameIndex := 17, descriptorIndex := 18, attributes := #[] }, { accessFlags := 9, nameIndex := 39, descriptorIndex := 40, attributes := #[] }] 49 2 #[] #[])
  fields := #[]
  methods := #[k1m0, k1m1, k1m2]
  instanceTypes := #[]
  staticTypes := #[]
  resolved := Array.replicate 47 none
  statics := none }

def pool2 : Array CpInfo := pool [(1, .class_ 2), (0, u "java/io/Serializable"), (0, .class_ 4), (0, u "java/lang/Object")] 2

/-- java/io/Serializable -/
def k2 : Class := { plain "java/io/Serializable" (some 0) with
  accessFlags := 1537
  interfaces := #[]
  cf := some (fileOf pool2 1 #[] #[] 1537 3 #[] #[])
  fields := #[]
  methods := #[]
  instanceTypes := #[]
  staticTypes := #[]
  resolved := Array.replicate 7 none
  statics := none }

def pool3 : Array CpInfo := pool [(1, .class_ 2), (0, u "java/lang/Comparable"), (0, .class_ 4), (0, u "java/lang/Object")] 7

/-- java/lang/Comparable -/
def k3 : Class := { plain "java/lang/Comparable" (some 0) with
  accessFlags := 1537
  interfaces := #[]
  cf := some (fileOf pool3 1 #[] #[] 1537 3 #[] #[])
  fields := #[]
  methods := #[]
  instanceTypes := #[]
  staticTypes := #[]
  resolved := Array.replicate 12 none
  statics := none }

def pool4 : Array CpInfo := pool [(2, .class_ 4), (1, u "java/lang/CharSequence"), (42, .class_ 48), (0, u "java/lang/CharSequence$1CodePointIterator"), (10, .class_ 60), (0, u "java/lang/CharSequence$1CharIterator"), (5, .class_ 67), (0, u "java/lang/Object")] 63

/-- java/lang/CharSequence -/
def k4 : Class := { plain "java/lang/CharSequence" (some 0) with
  accessFlags := 1537
  interfaces := #[]
  cf := some (fileOf pool4 2 #[.nestMembers #[47, 59]] #[] 1537 66 #[] #[])
  fields := #[]
  methods := #[]
  instanceTypes := #[]
  staticTypes := #[]
  resolved := Array.replicate 131 none
  statics := none }

def pool5 : Array CpInfo := pool [(1, .class_ 2), (0, u "java/lang/constant/Constable"), (0, .class_ 4), (0, u "java/lang/Object")] 6

/-- java/lang/constant/Constable -/
def k5 : Class := { plain "java/lang/constant/Constable" (some 0) with
  accessFlags := 1537
  interfaces := #[]
  cf := some (fileOf pool5 1 #[] #[] 1537 3 #[] #[])
  fields := #[]
  methods := #[]
  instanceTypes := #[]
  staticTypes := #[]
  resolved := Array.replicate 11 none
  statics := none }

def pool6 : Array CpInfo := pool [(1, .class_ 2), (0, u "java/lang/constant/ConstantDesc"), (0, .class_ 4), (0, u "java/lang/Object")] 32

/-- java/lang/constant/ConstantDesc -/
def k6 : Class := { plain "java/lang/constant/ConstantDesc" (some 0) with
  accessFlags := 1537
  interfaces := #[]
  cf := some (fileOf pool6 1 #[] #[] 1537 3 #[] #[])
  fields := #[]
  methods := #[]
  instanceTypes := #[]
  staticTypes := #[]
  resolved := Array.replicate 37 none
  statics := none }

def pool7 : Array CpInfo := pool [(1, .methodref 2 3), (0, .class_ 4), (0, .nameAndType 5 6), (0, u "java/lang/Object"), (0, u "<init>"), (0, u "()V"), (0, .string 8), (0, u ""), (0, .fieldref 10 11), (0, .class_ 12), (0, .nameAndType 13 14), (0, u "java/lang/String"), (0, u "value"), (0, u "[B"), (0, .fieldref 10 16), (0, .nameAndType 17 18), (0, u "coder"), (0, u "B"), (2, u "hash"), (0, u "I"), (2, u "hashIsZero"), (0, u "Z"), (0, .methodref 10 28), (0, .nameAndType 5 29), (0, u "([CIILjava/lang/Void;)V"), (8, .fieldref 10 39), (0, .nameAndType 40 26), (0, u "COMPACT_STRINGS"), (1, .class_ 44), (1, u "java/lang/StringUTF16"), (0, u "compress"), (1, .methodref 42 48), (0, .nameAndType 49 50), (0, u "coderFromArrayLen"), (0, u "([BI)B"), (56, .class_ 109), (1, u "java/lang/StringLatin1"), (32, u "()Z"), (34, .methodref 42 178), (0, .nameAndType 45 179), (0, u "([CII)[B"), (154, u "()I"), (0, .methodref 10 336), (0, .nameAndType 17 337), (0, u "()B"), (25, u "([BI)C"), (27, u "(II)V"), (35, u "(I)C"), (64, .methodref 10 493), (0, .nameAndType 494 142), (0, u "isLatin1"), (0, .methodref 107 496), (0, .nameAndType 497 363), (0, u "charAt"), (3, u "checkIndex"), (5, u "length"), (67, .class_ 576), (0, u "java/lang/CharSequence"), (22, u "CASE_INSENSITIVE_ORDER"), (0, u "Ljava/util/Comparator;"), (91, u "isEmpty"), (317, u "([C)V"), (42, .fieldref 1054 1055), (0, .class_ 1056), (0, .nameAndType 1057 1058), (0, u "jdk/internal/util/Preconditions"), (0, u "SIOOBE_FORMATTER"), (0, u "Ljava/util/function/BiFunction;"), (0, .methodref 1054 1060), (0, .nameAndType 501 1061), (0, u "(IILjava/util/function/BiFunction;)I"), (39, u "serialPersistentFields"), (0, u "[Ljava/io/ObjectStreamField;"), (0, .class_ 1104), (0, u "java/lang/String$CaseInsensitiveComparator"), (1, .class_ 1107), (0, u "java/io/Serializable"), (0, .class_ 1109), (0, u "java/lang/Comparable"), (0, .class_ 1111), (0, u "java/lang/constant/Constable"), (0, .class_ 1113), (0, u "java/lang/constant/ConstantDesc"), (2, u "serialVersionUID"), (0, u "J"), (3, u "REPL"), (0, u "C"), (2, u "LATIN1"), (1, u "UTF16")] 323

def k7m0 : Method := { name := "<init>", desc := "()V", sig := { parameters := [], returnType := none }, accessFlags := 1, code := none }
def k7c1 : Code := { maxStack := 5, maxLocals := 2, code := jdk_42_method_3_code, exceptionTable := #[], attributes := #[] }
def k7m1 : Method := { name := "<init>", desc := "([C)V", sig := { parameters := [(.array .char)], returnType := none }, accessFlags := 1, code := some k7c1 }
def k7c2 : Code := { maxStack := 2, maxLocals := 1, code := jdk_42_method_54_code, exceptionTable := #[], attributes := #[] }
def k7m2 : Method := { name := "length", desc := "()I", sig := { parameters := [], returnType := some .int }, accessFlags := 1, code := some k7c2 }
def k7c3 : Code := { maxStack := 1, maxLocals := 1, code := jdk_42_method_55_code, exceptionTable := #[], attributes := #[] }
def k7m3 : Method := { name := "isEmpty", desc := "()Z", sig := { parameters := [], returnType := some .boolean }, accessFlags := 1, code := some k7c3 }
def k7c4 : Code := { maxStack := 2, maxLocals := 2, code := jdk_42_method_56_code, exceptionTable := #[], attributes := #[] }
def k7m4 : Method := { name := "charAt", desc := "(I)C", sig := { parameters := [.int], returnType := some .char }, accessFlags := 1, code := some k7c4 }
def k7c5 : Code := { maxStack := 4, maxLocals := 6, code := jdk_42_method_149_code, exceptionTable := #[], attributes := #[] }
def k7m5 : Method := { name := "<init>", desc := "([CIILjava/lang/Void;)V", sig := { parameters := [(.array .char), .int, .int, (.object "java/lang/Void")], returnType := none }, accessFlags := 2, code := some k7c5 }
def k7c6 : Code := { maxStack := 1, maxLocals := 1, code := jdk_42_method_152_code, exceptionTable := #[], attributes := #[] }
def k7m6 : Method := { name := "coder", desc := "()B", sig := { parameters := [], returnType := some .byte }, accessFlags := 0, code := some k7c6 }
def k7c7 : Code := { maxStack := 1, maxLocals := 1, code := jdk_42_method_154_code, exceptionTable := #[], attributes := #[] }
def k7m7 : Method := { name := "isLatin1", desc := "()Z", sig := { parameters := [], returnType := some .boolean }, accessFlags := 0, code := some k7c7 }
def k7c8 : Code := { maxStack := 3, maxLocals := 2, code := jdk_42_method_155_code, exceptionTable := #[], attributes := #[] }
def k7m8 : Method := { name := "checkIndex", desc := "(II)V", sig := { parameters := [.int, .int], returnType := none }, accessFlags := 8, code := some k7c8 }
/-- java/lang/String -/
def k7 : Class := { plain "java/lang/String" (some 0) with
  accessFlags := 49
  interfaces := #[2, 3, 4, 5, 6]
  cf := some (fileOf pool7 10 #[.nestMembers #[1103]] #[{ accessFlags := 1, nameIndex := 5, descriptorIndex := 6, attributes := #[] }, { accessFlags := 1, nameIndex := 5, descriptorIndex := 1010, attributes := #[] }, { accessFlags := 1, nameIndex := 507, descriptorIndex := 334, attributes := #[] }, { accessFlags := 1, nameIndex := 692, descriptorIndex := 142, attributes := #[] }, { accessFlags := 1, nameIndex := 497, descriptorIndex := 427, attributes := #[] }, { accessFlags := 2, nameIndex := 5, descriptorIndex := 29, attributes := #[] }, { accessFlags := 0, nameIndex := 17, descriptorIndex := 337, attributes := #[] }, { accessFlags := 0, nameIndex := 494, descriptorIndex := 142, attributes := #[] }, { accessFlags := 8, nameIndex := 501, descriptorIndex := 391, attributes := #[] }] 49 2 #[1106, 1108, 575, 1110, 1112] #[{ accessFlags := 18, nameIndex := 13, descriptorIndex := 14, attributes := #[] }, { accessFlags := 18, nameIndex := 17, descriptorIndex := 18, attributes := #[] }, { accessFlags := 2, nameIndex := 21, descriptorIndex := 22, attributes := #[] }, { accessFlags := 2, nameIndex := 25, descriptorIndex := 26, attributes := #[] }, { accessFlags := 26, nameIndex := 1116, descriptorIndex := 1117, attributes := #[] }, { accessFlags := 24, nameIndex := 40, descriptorIndex := 26, attributes := #[] }, { accessFlags := 26, nameIndex := 1101, descriptorIndex := 1102, attributes := #[] }, { accessFlags := 26, nameIndex := 1121, descriptorIndex := 1122, attributes := #[] }, { accessFlags := 25, nameIndex := 599, descriptorIndex := 600, attributes := #[] }, { accessFlags := 24, nameIndex := 1125, descriptorIndex := 18, attributes := #[] }, { accessFlags := 24, nameIndex := 1127, descriptorIndex := 18, attributes := #[] }])
  fields := #[{ name := "value", type := (.array .byte), accessFlags := 18, slot := 0, constantValue := 0 }, { name := "coder", type := .byte, accessFlags := 18, slot := 1, constantValue := 0 }, { name := "hash", type := .int, accessFlags := 2, slot := 2, constantValue := 0 }, { name := "hashIsZero", type := .boolean, accessFlags := 2, slot := 3, constantValue := 0 }, { name := "serialVersionUID", type := .long, accessFlags := 26, slot := 0, constantValue := 0 }, { name := "COMPACT_STRINGS", type := .boolean, accessFlags := 24, slot := 1, constantValue := 0 }, { name := "serialPersistentFields", type := (.array (.object "java/io/ObjectStreamField")), accessFlags := 26, slot := 2, constantValue := 0 }, { name := "REPL", type := .char, accessFlags := 26, slot := 3, constantValue := 0 }, { name := "CASE_INSENSITIVE_ORDER", type := (.object "java/util/Comparator"), accessFlags := 25, slot := 4, constantValue := 0 }, { name := "LATIN1", type := .byte, accessFlags := 24, slot := 5, constantValue := 0 }, { name := "UTF16", type := .byte, accessFlags := 24, slot := 6, constantValue := 0 }]
  methods := #[k7m0, k7m1, k7m2, k7m3, k7m4, k7m5, k7m6, k7m7, k7m8]
  instanceTypes := #[(.array .byte), .byte, .int, .boolean]
  staticTypes := #[.long, .boolean, (.array (.object "java/io/ObjectStreamField")), .char, (.object "java/util/Comparator"), .byte, .byte]
  resolved := Array.replicate 1451 none
  statics := some 0 }

def pool8 : Array CpInfo := pool [(6, .class_ 8), (1, u "java/lang/Object"), (0, u "<init>"), (0, u "()V"), (1, .class_ 14), (1, u "java/lang/StringUTF16"), (31, u "$assertionsDisabled"), (0, u "Z"), (13, u "HI_BYTE_SHIFT"), (0, u "I"), (2, u "LO_BYTE_SHIFT"), (49, .methodref 12 116), (0, .nameAndType 117 118), (0, u "compress"), (0, u "([CI[BII)I"), (3, u "([CII)[B"), (138, u "coderFromArrayLen"), (0, u "([BI)B"), (106, .class_ 371), (1, u "java/lang/StringUTF16$LinesSpliterator"), (58, u "MAX_LENGTH"), (196, .class_ 628), (0, u "java/lang/StringUTF16$CodePointsSpliterator"), (0, .class_ 630), (0, u "java/lang/StringUTF16$CharsSpliterator")] 4

def k8m0 : Method := { name := "<init>", desc := "()V", sig := { parameters := [], returnType := none }, accessFlags := 0, code := none }
def k8c1 : Code := { maxStack := 2, maxLocals := 2, code := jdk_52_method_15_code, exceptionTable := #[], attributes := #[] }
def k8m1 : Method := { name := "coderFromArrayLen", desc := "([BI)B", sig := { parameters := [(.array .byte), .int], returnType := some .byte }, accessFlags := 8, code := some k8c1 }
def k8c2 : Code := { maxStack := 5, maxLocals := 6, code := jdk_52_method_16_code, exceptionTable := #[], attributes := #[] }
def k8m2 : Method := { name := "compress", desc := "([CII)[B", sig := { parameters := [(.array .char), .int, .int], returnType := some (.array .byte) }, accessFlags := 9, code := some k8c2 }
def k8c3 : Code := { maxStack := 3, maxLocals := 7, code := jdk_52_method_21_code, exceptionTable := #[], attributes := #[] }
def k8m3 : Method := { name := "compress", desc := "([CI[BII)I", sig := { parameters := [(.array .char), .int, (.array .byte), .int, .int], returnType := some .int }, accessFlags := 9, code := some k8c3 }
/-- java/lang/StringUTF16 -/
def k8 : Class := { plain "java/lang/StringUTF16" (some 0) with
  accessFlags := 48
  interfaces := #[]
  cf := some (fileOf pool8 12 #[.nestMembers #[627, 629, 369]] #[{ accessFlags := 0, nameIndex := 9, descriptorIndex := 10, attributes := #[] }, { accessFlags := 8, nameIndex := 261, descriptorIndex := 262, attributes := #[] }, { accessFlags := 9, nameIndex := 117, descriptorIndex := 122, attributes := #[] }, { accessFlags := 9, nameIndex := 117, descriptorIndex := 118, attributes := #[] }] 48 6 #[] #[{ accessFlags := 26, nameIndex := 61, descriptorIndex := 62, attributes := #[] }, { accessFlags := 26, nameIndex := 65, descriptorIndex := 62, attributes := #[] }, { accessFlags := 24, nameIndex := 430, descriptorIndex := 62, attributes := #[] }, { accessFlags := 4120, nameIndex := 46, descriptorIndex := 47, attributes := #[] }])
  fields := #[{ name := "HI_BYTE_SHIFT", type := .int, accessFlags := 26, slot := 0, constantValue := 0 }, { name := "LO_BYTE_SHIFT", type := .int, accessFlags := 26, slot := 1, constantValue := 0 }, { name := "MAX_LENGTH", type := .int, accessFlags := 24, slot := 2, constantValue := 0 }, { name := "$assertionsDisabled", type := .boolean, accessFlags := 4120, slot := 3, constantValue := 0 }]
  methods := #[k8m0, k8m1, k8m2, k8m3]
  instanceTypes := #[]
  staticTypes := #[.int, .int, .int, .boolean]
  resolved := Array.replicate 635 none
  statics := none }

def pool9 : Array CpInfo := pool [(1, .methodref 2 3), (0, .class_ 4), (0, .nameAndType 5 6), (0, u "java/lang/Object"), (0, u "<init>"), (0, u "()V"), (0, .class_ 8), (0, u "java/lang/Record")] 13

def k9c0 : Code := { maxStack := 1, maxLocals := 1, code := jdk_30_method_1_code, exceptionTable := #[], attributes := #[] }
def k9m0 : Method := { name := "<init>", desc := "()V", sig := { parameters := [], returnType := none }, accessFlags := 4, code := some k9c0 }
/-- java/lang/Record -/
def k9 : Class := { plain "java/lang/Record" (some 0) with
  accessFlags := 1057
  interfaces := #[]
  cf := some (fileOf pool9 7 #[] #[{ accessFlags := 4, nameIndex := 5, descriptorIndex := 6, attributes := #[] }] 1057 2 #[] #[])
  fields := #[]
  methods := #[k9m0]
  instanceTypes := #[]
  staticTypes := #[]
  resolved := Array.replicate 22 none
  statics := none }

def pool10 : Array CpInfo := pool [(1, .methodref 2 3), (0, .class_ 4), (0, .nameAndType 5 6), (0, u "java/lang/Record"), (0, u "<init>"), (0, u "()V"), (0, .fieldref 8 9), (0, .class_ 10), (0, .nameAndType 11 12), (0, u "com/example/relaystack/relaystack/CommandLine$Option"), (0, u "name"), (0, u "Ljava/lang/String;"), (0, .fieldref 8 14), (0, .nameAndType 15 12), (0, u "given"), (0, .methodref 17 18), (0, .class_ 19), (0, .nameAndType 20 21), (0, u "java/lang/String"), (0, u "isEmpty"), (0, u "()Z"), (21, u "(Ljava/lang/String;Ljava/lang/String;)V"), (3, u "value"), (0, u "()Ljava/lang/String;"), (6, .class_ 56), (0, u "com/example/relaystack/relaystack/CommandLine")] 28

def k10c0 : Code := { maxStack := 2, maxLocals := 3, code := prog_8_method_1_code, exceptionTable := #[], attributes := #[] }
def k10m0 : Method := { name := "<init>", desc := "(Ljava/lang/String;Ljava/lang/String;)V", sig := { parameters := [(.object "java/lang/String"), (.object "java/lang/String")], returnType := none }, accessFlags := 0, code := some k10c0 }
def k10c1 : Code := { maxStack := 3, maxLocals := 1, code := prog_8_method_2_code, exceptionTable := #[], attributes := #[] }
def k10m1 : Method := { name := "value", desc := "()Ljava/lang/String;", sig := { parameters := [], returnType := some (.object "java/lang/String") }, accessFlags := 0, code := some k10c1 }
/-- com/example/relaystack/relaystack/CommandLine$Option -/
def k10 : Class := { plain "com/example/relaystack/relaystack/CommandLine$Option" (some 9) with
  accessFlags := 48
  interfaces := #[]
  cf := some (fileOf pool10 8 #[.nestHost 55] #[{ accessFlags := 0, nameIndex := 5, descriptorIndex := 43, attributes := #[] }, { accessFlags := 0, nameIndex := 47, descriptorIndex := 48, attributes := #[] }] 48 2 #[] #[{ accessFlags := 18, nameIndex := 11, descriptorIndex := 12, attributes := #[] }, { accessFlags := 18, nameIndex := 15, descriptorIndex := 12, attributes := #[] }])
  fields := #[{ name := "name", type := (.object "java/lang/String"), accessFlags := 18, slot := 0, constantValue := 0 }, { name := "given", type := (.object "java/lang/String"), accessFlags := 18, slot := 1, constantValue := 0 }]
  methods := #[k10m0, k10m1]
  instanceTypes := #[(.object "java/lang/String"), (.object "java/lang/String")]
  staticTypes := #[]
  resolved := Array.replicate 85 none
  statics := none }

def pool11 : Array CpInfo := pool [(1, .class_ 2), (0, u "java/lang/String"), (1, .class_ 6), (1, u "java/lang/Object"), (0, u "<init>"), (0, u "()V"), (0, .methodref 1 10), (0, .nameAndType 11 12), (0, u "checkIndex"), (0, u "(II)V"), (1, .class_ 16), (1, u "java/lang/StringLatin1"), (36, u "([BI)C"), (67, u "$assertionsDisabled"), (0, u "Z"), (98, .class_ 223), (1, u "java/lang/StringLatin1$LinesSpliterator"), (28, u "charAt"), (137, .class_ 391), (0, u "java/lang/StringLatin1$CharsSpliterator")] 3

def k11m0 : Method := { name := "<init>", desc := "()V", sig := { parameters := [], returnType := none }, accessFlags := 0, code := none }
def k11c1 : Code := { maxStack := 2, maxLocals := 2, code := jdk_43_method_2_code, exceptionTable := #[], attributes := #[] }
def k11m1 : Method := { name := "charAt", desc := "([BI)C", sig := { parameters := [(.array .byte), .int], returnType := some .char }, accessFlags := 9, code := some k11c1 }
/-- java/lang/StringLatin1 -/
def k11 : Class := { plain "java/lang/StringLatin1" (some 0) with
  accessFlags := 48
  interfaces := #[]
  cf := some (fileOf pool11 14 #[.nestMembers #[390, 221]] #[{ accessFlags := 0, nameIndex := 7, descriptorIndex := 8, attributes := #[] }, { accessFlags := 9, nameIndex := 252, descriptorIndex := 53, attributes := #[] }] 48 4 #[] #[{ accessFlags := 4120, nameIndex := 121, descriptorIndex := 122, attributes := #[] }])
  fields := #[{ name := "$assertionsDisabled", type := .boolean, accessFlags := 4120, slot := 0, constantValue := 0 }]
  methods := #[k11m0, k11m1]
  instanceTypes := #[]
  staticTypes := #[.boolean]
  resolved := Array.replicate 395 none
  statics := none }

def pool12 : Array CpInfo := pool [(2, .class_ 4), (1, u "java/lang/Object"), (0, u "<init>"), (0, u "()V"), (17, .class_ 26), (1, u "jdk/internal/util/Preconditions"), (6, u "checkIndex"), (21, .class_ 56), (0, u "jdk/internal/util/Preconditions$4"), (57, .class_ 115), (0, u "jdk/internal/util/Preconditions$1"), (7, u "SIOOBE_FORMATTER"), (0, u "Ljava/util/function/BiFunction;"), (0, .class_ 126), (0, u "jdk/internal/util/Preconditions$2"), (3, u "AIOOBE_FORMATTER"), (0, .class_ 132), (0, u "jdk/internal/util/Preconditions$3"), (3, u "IOOBE_FORMATTER"), (41, u "(IILjava/util/function/BiFunction;)I")] 15

def k12m0 : Method := { name := "<init>", desc := "()V", sig := { parameters := [], returnType := none }, accessFlags := 1, code := none }
def k12c1 : Code := { maxStack := 3, maxLocals := 3, code := jdk_41_method_11_code, exceptionTable := #[], attributes := #[] }
def k12m1 : Method := { name := "checkIndex", desc := "(IILjava/util/function/BiFunction;)I", sig := { parameters := [.int, .int, (.object "java/util/function/BiFunction")], returnType := some .int }, accessFlags := 9, code := some k12c1 }
/-- jdk/internal/util/Preconditions -/
def k12 : Class := { plain "jdk/internal/util/Preconditions" (some 0) with
  accessFlags := 33
  interfaces := #[]
  cf := some (fileOf pool12 24 #[.nestMembers #[55, 131, 125, 114]] #[{ accessFlags := 1, nameIndex := 5, descriptorIndex := 6, attributes := #[] }, { accessFlags := 9, nameIndex := 33, descriptorIndex := 178, attributes := #[] }] 33 2 #[] #[{ accessFlags := 25, nameIndex := 123, descriptorIndex := 124, attributes := #[] }, { accessFlags := 25, nameIndex := 130, descriptorIndex := 124, attributes := #[] }, { accessFlags := 25, nameIndex := 136, descriptorIndex := 124, attributes := #[] }])
  fields := #[{ name := "SIOOBE_FORMATTER", type := (.object "java/util/function/BiFunction"), accessFlags := 25, slot := 0, constantValue := 0 }, { name := "AIOOBE_FORMATTER", type := (.object "java/util/function/BiFunction"), accessFlags := 25, slot := 1, constantValue := 0 }, { name := "IOOBE_FORMATTER", type := (.object "java/util/function/BiFunction"), accessFlags := 25, slot := 2, constantValue := 0 }]
  methods := #[k12m0, k12m1]
  instanceTypes := #[]
  staticTypes := #[(.object "java/util/function/BiFunction"), (.object "java/util/function/BiFunction"), (.object "java/util/function/BiFunction")]
  resolved := Array.replicate 194 none
  statics := some 1 }

def pool13 : Array CpInfo := pool [(9, u "<init>"), (6, .class_ 18), (1, u "java/lang/Object"), (0, u "()V"), (1, .class_ 23), (1, u "jdk/internal/util/ArraysSupport"), (0, u "LOG2_ARRAY_LONG_INDEX_SCALE"), (0, u "I"), (2, u "U"), (0, u "Ljdk/internal/misc/Unsafe;"), (8, u "BIG_ENDIAN"), (0, u "Z"), (8, u "LOG2_BYTE_BIT_SIZE"), (4, u "LOG2_ARRAY_INT_INDEX_SCALE"), (54, u "JLA"), (0, u "Ljdk/internal/access/JavaLangAccess;"), (11, u "LOG2_ARRAY_BOOLEAN_INDEX_SCALE"), (9, u "LOG2_ARRAY_BYTE_INDEX_SCALE"), (5, u "LOG2_ARRAY_CHAR_INDEX_SCALE"), (5, u "LOG2_ARRAY_SHORT_INDEX_SCALE"), (18, u "LOG2_ARRAY_FLOAT_INDEX_SCALE"), (24, u "LOG2_ARRAY_DOUBLE_INDEX_SCALE"), (89, u "T_BOOLEAN"), (2, u "T_CHAR"), (1, u "T_FLOAT"), (1, u "T_DOUBLE"), (1, u "T_BYTE"), (1, u "T_SHORT"), (1, u "T_INT"), (1, u "T_LONG"), (1, u "SOFT_MAX_ARRAY_LENGTH")] 83

def k13m0 : Method := { name := "<init>", desc := "()V", sig := { parameters := [], returnType := none }, accessFlags := 2, code := none }
/-- jdk/internal/util/ArraysSupport -/
def k13 : Class := { plain "jdk/internal/util/ArraysSupport" (some 0) with
  accessFlags := 33
  interfaces := #[]
  cf := some (fileOf pool13 21 #[] #[{ accessFlags := 2, nameIndex := 9, descriptorIndex := 19, attributes := #[] }] 33 16 #[] #[{ accessFlags := 24, nameIndex := 28, descriptorIndex := 29, attributes := #[] }, { accessFlags := 26, nameIndex := 38, descriptorIndex := 39, attributes := #[] }, { accessFlags := 25, nameIndex := 121, descriptorIndex := 25, attributes := #[] }, { accessFlags := 25, nameIndex := 131, descriptorIndex := 25, attributes := #[] }, { accessFlags := 25, nameIndex := 137, descriptorIndex := 25, attributes := #[] }, { accessFlags := 25, nameIndex := 143, descriptorIndex := 25, attributes := #[] }, { accessFlags := 25, nameIndex := 53, descriptorIndex := 25, attributes := #[] }, { accessFlags := 25, nameIndex := 24, descriptorIndex := 25, attributes := #[] }, { accessFlags := 25, nameIndex := 162, descriptorIndex := 25, attributes := #[] }, { accessFlags := 25, nameIndex := 187, descriptorIndex := 25, attributes := #[] }, { accessFlags := 26, nameIndex := 48, descriptorIndex := 25, attributes := #[] }, { accessFlags := 25, nameIndex := 277, descriptorIndex := 25, attributes := #[] }, { accessFlags := 25, nameIndex := 280, descriptorIndex := 25, attributes := #[] }, { accessFlags := 25, nameIndex := 282, descriptorIndex := 25, attributes := #[] }, { accessFlags := 25, nameIndex := 284, descriptorIndex := 25, attributes := #[] }, { accessFlags := 25, nameIndex := 286, descriptorIndex := 25, attributes := #[] }, { accessFlags := 25, nameIndex := 288, descriptorIndex := 25, attributes := #[] }, { accessFlags := 25, nameIndex := 290, descriptorIndex := 25, attributes := #[] }, { accessFlags := 25, nameIndex := 292, descriptorIndex := 25, attributes := #[] }, { accessFlags := 26, nameIndex := 108, descriptorIndex := 109, attributes := #[] }, { accessFlags := 25, nameIndex := 294, descriptorIndex := 25, attributes := #[] }])
  fields := #[{ name := "U", type := (.object "jdk/internal/misc/Unsafe"), accessFlags := 24, slot := 0, constantValue := 0 }, { name := "BIG_ENDIAN", type := .boolean, accessFlags := 26, slot := 1, constantValue := 0 }, { name := "LOG2_ARRAY_BOOLEAN_INDEX_SCALE", type := .int, accessFlags := 25, slot := 2, constantValue := 0 }, { name := "LOG2_ARRAY_BYTE_INDEX_SCALE", type := .int, accessFlags := 25, slot := 3, constantValue := 0 }, { name := "LOG2_ARRAY_CHAR_INDEX_SCALE", type := .int, accessFlags := 25, slot := 4, constantValue := 0 }, { name := "LOG2_ARRAY_SHORT_INDEX_SCALE", type := .int, accessFlags := 25, slot := 5, constantValue := 0 }, { name := "LOG2_ARRAY_INT_INDEX_SCALE", type := .int, accessFlags := 25, slot := 6, constantValue := 0 }, { name := "LOG2_ARRAY_LONG_INDEX_SCALE", type := .int, accessFlags := 25, slot := 7, constantValue := 0 }, { name := "LOG2_ARRAY_FLOAT_INDEX_SCALE", type := .int, accessFlags := 25, slot := 8, constantValue := 0 }, { name := "LOG2_ARRAY_DOUBLE_INDEX_SCALE", type := .int, accessFlags := 25, slot := 9, constantValue := 0 }, { name := "LOG2_BYTE_BIT_SIZE", type := .int, accessFlags := 26, slot := 10, constantValue := 0 }, { name := "T_BOOLEAN", type := .int, accessFlags := 25, slot := 11, constantValue := 0 }, { name := "T_CHAR", type := .int, accessFlags := 25, slot := 12, constantValue := 0 }, { name := "T_FLOAT", type := .int, accessFlags := 25, slot := 13, constantValue := 0 }, { name := "T_DOUBLE", type := .int, accessFlags := 25, slot := 14, constantValue := 0 }, { name := "T_BYTE", type := .int, accessFlags := 25, slot := 15, constantValue := 0 }, { name := "T_SHORT", type := .int, accessFlags := 25, slot := 16, constantValue := 0 }, { name := "T_INT", type := .int, accessFlags := 25, slot := 17, constantValue := 0 }, { name := "T_LONG", type := .int, accessFlags := 25, slot := 18, constantValue := 0 }, { name := "JLA", type := (.object "jdk/internal/access/JavaLangAccess"), accessFlags := 26, slot := 19, constantValue := 0 }, { name := "SOFT_MAX_ARRAY_LENGTH", type := .int, accessFlags := 25, slot := 20, constantValue := 0 }]
  methods := #[k13m0]
  instanceTypes := #[]
  staticTypes := #[(.object "jdk/internal/misc/Unsafe"), .boolean, .int, .int, .int, .int, .int, .int, .int, .int, .int, .int, .int, .int, .int, .int, .int, .int, .int, (.object "jdk/internal/access/JavaLangAccess"), .int]
  resolved := Array.replicate 378 none
  statics := none }

def pool14 : Array CpInfo := pool [(1, u "java/lang/Cloneable"), (0, .class_ 1), (0, u "java/lang/Object"), (0, .class_ 3)] 3

/-- java/lang/Cloneable -/
def k14 : Class := { plain "java/lang/Cloneable" (some 0) with
  accessFlags := 1537
  interfaces := #[]
  cf := some (fileOf pool14 2 #[] #[] 1537 4 #[] #[])
  fields := #[]
  methods := #[]
  instanceTypes := #[]
  staticTypes := #[]
  resolved := Array.replicate 8 none
  statics := none }

/-- the primitive byte -/
def k15 : Class := { plain "byte" none with kind := .primitive 'B', accessFlags := 0x411 }
/-- [B -/
def k16 : Class := { plain "[B" (some 0) with kind := .array 15 .byte, interfaces := #[14, 2], accessFlags := 1041 }

/-- the primitive char -/
def k17 : Class := { plain "char" none with kind := .primitive 'C', accessFlags := 0x411 }
/-- [C -/
def k18 : Class := { plain "[C" (some 0) with kind := .array 17 .char, interfaces := #[14, 2], accessFlags := 1041 }

/-- the primitive int -/
def k19 : Class := { plain "int" none with kind := .primitive 'I', accessFlags := 0x411 }
/-- [I -/
def k20 : Class := { plain "[I" (some 0) with kind := .array 19 .int, interfaces := #[14, 2], accessFlags := 1041 }

def heap : Heap := #[{ cls := 7, slots := #[.long 0, .int 1, .null, .int 0, .null, .int 0, .int 0], vm := .statics 7 },
  { cls := 12, slots := #[.null, .null, .null], vm := .statics 12 }]
def classes : Array Class := #[k0, k1, k2, k3, k4, k5, k6, k7, k8, k9, k10, k11, k12, k13, k14, k15, k16, k17, k18, k19, k20]
def interned : List (Array UInt16 × Addr) := []
def slotsUsed : Nat := 10
def theMethod : MethodId := ⟨1, 2⟩
def args0 : Array Value := #[.int 50, .int 77, .int 88, .int 1000, .int 1]
def aboutOver (below : List Frame) : State where
  vm := { classes := classes, interned := interned.toArray }
  heap := heap
  slotsUsed := slotsUsed
  threads := #[{ frames := .invoking theMethod args0 :: below }]
def below0 : List Frame := [.native { method := ⟨0, 0⟩, args := #[] }]
def about1 : State := aboutOver below0
def p0 : Program := .bare "" "" ""
def e0 : Env := launch0.env 0 0 0
theorem w_frames : about1.frames = Frame.invoking theMethod args0 :: below0 := rfl
set_option maxRecDepth 65536 in
theorem w_args : argsFit about1.vm theMethod args0 = true := by decide +kernel
set_option maxRecDepth 65536 in
theorem w_heap : heapFits about1 = true := by decide +kernel
set_option maxRecDepth 65536 in
theorem w_runnable : about1.curStatus? = some .runnable := by decide +kernel
set_option maxRecDepth 65536 in
theorem w_alone : about1.alone = true := by decide +kernel
set_option maxRecDepth 65536 in
theorem w_named : about1.methodNamed? x = some theMethod := by decide +kernel
set_option maxRecDepth 65536 in
theorem w_hears : about1.hears theMethod below0 = true := by decide +kernel
set_option maxRecDepth 65536 in
theorem w_ripe : about1.ripe theMethod args0 below0 = true := by decide +kernel
theorem w_running : about1.status = .running := rfl
set_option maxRecDepth 65536 in
theorem w_room : about1.hasRoom e0.platform room_1 = true :=
  launch0.hasRoom_least _ room_1 (by decide +kernel) (by decide +kernel) (by decide +kernel) (by decide +kernel) (by decide +kernel) (by decide +kernel)
theorem allAtoms_all (ts : List Jvm.Cond) (a : Array Jvm.Value) (st : Jvm.State) : (allAtoms ts).before a st = ts.all (fun c => c.before a st) := by
  induction ts with
  | nil => rfl
  | cons c t ih =>
    show (Jvm.Cond.and c (allAtoms t)).before a st = _
    rw [Jvm.Cond.before_and, ih, List.all_cons]
def words1 : List Jvm.Cond := Jvm.Cond.code x code maxLocals ret :: tables_1
/-- a 'code' word, met by the world's own term for the bytes: nothing is compared byte by byte -/
theorem code_word {y : MethodName} {bytes : ByteArray} {mx : Nat} {rt : Option FieldType} {a : Array Value} {s : State} {m : MethodId} {meth : Method} {c : Code} (h1 : s.methodNamed? y = some m) (h2 : s.vm.method? m = some meth) (h3 : meth.code = some c) (h4 : c.code = bytes)
    (h5 : (c.maxLocals == mx && c.exceptionTable.isEmpty && decide (c.maxStack ≤ mostOperands) && decide (meth.sig.returnType = rt) && !meth.locks && decide (parseMethodDescriptor y.desc = some meth.sig)) = true) : (Jvm.Cond.code y bytes mx rt).before a s = true := by
  simp only [Bool.and_eq_true, beq_iff_eq, Bool.not_eq_true', decide_eq_true_eq] at h5
  obtain ⟨⟨⟨⟨⟨g1, g2⟩, g3⟩, g4⟩, g5⟩, g6⟩ := h5
  simp [Cond.before, Cond.holds, Cond.value, h1, h2, h3, h4, g1, g2, g3, g4, g5, g6]
def isCode : Jvm.Cond → Bool
  | .code _ _ _ _ => true
  | _ => false
theorem all_split {L : List Jvm.Cond} {P : Jvm.Cond → Bool} (h1 : L.all (fun c => isCode c || P c) = true) (h2 : ∀ c ∈ L.filter isCode, P c = true) : L.all P = true := by
  refine List.all_eq_true.mpr fun c hc => ?_
  have h := List.all_eq_true.mp h1 c hc
  rcases Bool.eq_false_or_eq_true (isCode c) with hi | hi
  · exact h2 c (List.mem_filter.mpr ⟨hc, hi⟩)
  · simpa [hi] using h
set_option maxRecDepth 65536 in
theorem w_c0 : (Jvm.Cond.code x code maxLocals ret).before args0 about1 = true := code_word (m := ⟨1, 2⟩) (meth := k1m2) (c := k1c2) (by decide +kernel) rfl rfl rfl (by decide +kernel)
set_option maxRecDepth 65536 in
theorem w_c1 : (Jvm.Cond.code ({ cls := "com/example/relaystack/relaystack/OptionValuePinLaw", name := "drawn", desc := "(II)Ljava/lang/String;" } : Jvm.MethodName) method_2_code (5 : Nat) (Option.some (Jvm.ClassFile.FieldType.object "java/lang/String"))).before args0 about1 = true := code_word (m := ⟨1, 1⟩) (meth := k1m1) (c := k1c1) (by decide +kernel) rfl rfl rfl (by decide +kernel)
set_option maxRecDepth 65536 in
theorem w_c2 : (Jvm.Cond.code ({ cls := "java/lang/String", name := "<init>", desc := "([C)V" } : Jvm.MethodName) jdk_42_method_3_code (2 : Nat) (Option.none : Option Jvm.ClassFile.FieldType)).before args0 about1 = true := code_word (m := ⟨7, 1⟩) (meth := k7m1) (c := k7c1) (by decide +kernel) rfl rfl rfl (by decide +kernel)
set_option maxRecDepth 65536 in
theorem w_c3 : (Jvm.Cond.code ({ cls := "java/lang/String", name := "<init>", desc := "([CIILjava/lang/Void;)V" } : Jvm.MethodName) jdk_42_method_149_code (6 : Nat) (Option.none : Option Jvm.ClassFile.FieldType)).before args0 about1 = true := code_word (m := ⟨7, 5⟩) (meth := k7m5) (c := k7c5) (by decide +kernel) rfl rfl rfl (by decide +kernel)
set_option maxRecDepth 65536 in
theorem w_c4 : (Jvm.Cond.code ({ cls := "java/lang/Object", name := "<init>", desc := "()V" } : Jvm.MethodName) object_method_1_code (1 : Nat) (Option.none : Option Jvm.ClassFile.FieldType)).before args0 about1 = true := code_word (m := ⟨0, 0⟩) (meth := k0m0) (c := k0c0) (by decide +kernel) rfl rfl rfl (by decide +kernel)
set_option maxRecDepth 65536 in
theorem w_c5 : (Jvm.Cond.code ({ cls := "java/lang/StringUTF16", name := "compress", desc := "([CII)[B" } : Jvm.MethodName) jdk_52_method_16_code (6 : Nat) (Option.some (Jvm.ClassFile.FieldType.array Jvm.ClassFile.FieldType.byte))).before args0 about1 = true := code_word (m := ⟨8, 2⟩) (meth := k8m2) (c := k8c2) (by decide +kernel) rfl rfl rfl (by decide +kernel)
set_option maxRecDepth 65536 in
theorem w_c6 : (Jvm.Cond.code ({ cls := "java/lang/StringUTF16", name := "compress", desc := "([CI[BII)I" } : Jvm.MethodName) jdk_52_method_21_code (7 : Nat) (Option.some Jvm.ClassFile.FieldType.int)).before args0 about1 = true := code_word (m := ⟨8, 3⟩) (meth := k8m3) (c := k8c3) (by decide +kernel) rfl rfl rfl (by decide +kernel)
set_option maxRecDepth 65536 in
theorem w_c7 : (Jvm.Cond.code ({ cls := "java/lang/StringUTF16", name := "coderFromArrayLen", desc := "([BI)B" } : Jvm.MethodName) jdk_52_method_15_code (2 : Nat) (Option.some Jvm.ClassFile.FieldType.byte)).before args0 about1 = true := code_word (m := ⟨8, 1⟩) (meth := k8m1) (c := k8c1) (by decide +kernel) rfl rfl rfl (by decide +kernel)
set_option maxRecDepth 65536 in
theorem w_c8 : (Jvm.Cond.code ({ cls := "com/example/relaystack/relaystack/CommandLine$Option", name := "<init>", desc := "(Ljava/lang/String;Ljava/lang/String;)V" } : Jvm.MethodName) prog_8_method_1_code (3 : Nat) (Option.none : Option Jvm.ClassFile.FieldType)).before args0 about1 = true := code_word (m := ⟨10, 0⟩) (meth := k10m0) (c := k10c0) (by decide +kernel) rfl rfl rfl (by decide +kernel)
set_option maxRecDepth 65536 in
theorem w_c9 : (Jvm.Cond.code ({ cls := "java/lang/Record", name := "<init>", desc := "()V" } : Jvm.MethodName) jdk_30_method_1_code (1 : Nat) (Option.none : Option Jvm.ClassFile.FieldType)).before args0 about1 = true := code_word (m := ⟨9, 0⟩) (meth := k9m0) (c := k9c0) (by decide +kernel) rfl rfl rfl (by decide +kernel)
set_option maxRecDepth 65536 in
theorem w_c10 : (Jvm.Cond.code ({ cls := "com/example/relaystack/relaystack/CommandLine$Option", name := "value", desc := "()Ljava/lang/String;" } : Jvm.MethodName) prog_8_method_2_code (1 : Nat) (Option.some (Jvm.ClassFile.FieldType.object "java/lang/String"))).before args0 about1 = true := code_word (m := ⟨10, 1⟩) (meth := k10m1) (c := k10c1) (by decide +kernel) rfl rfl rfl (by decide +kernel)
set_option maxRecDepth 65536 in
theorem w_c11 : (Jvm.Cond.code ({ cls := "java/lang/String", name := "isEmpty", desc := "()Z" } : Jvm.MethodName) jdk_42_method_55_code (1 : Nat) (Option.some Jvm.ClassFile.FieldType.boolean)).before args0 about1 = true := code_word (m := ⟨7, 3⟩) (meth := k7m3) (c := k7c3) (by decide +kernel) rfl rfl rfl (by decide +kernel)
set_option maxRecDepth 65536 in
theorem w_c12 : (Jvm.Cond.code ({ cls := "java/lang/String", name := "length", desc := "()I" } : Jvm.MethodName) jdk_42_method_54_code (1 : Nat) (Option.some Jvm.ClassFile.FieldType.int)).before args0 about1 = true := code_word (m := ⟨7, 2⟩) (meth := k7m2) (c := k7c2) (by decide +kernel) rfl rfl rfl (by decide +kernel)
set_option maxRecDepth 65536 in
theorem w_c13 : (Jvm.Cond.code ({ cls := "java/lang/String", name := "coder", desc := "()B" } : Jvm.MethodName) jdk_42_method_152_code (1 : Nat) (Option.some Jvm.ClassFile.FieldType.byte)).before args0 about1 = true := code_word (m := ⟨7, 6⟩) (meth := k7m6) (c := k7c6) (by decide +kernel) rfl rfl rfl (by decide +kernel)
set_option maxRecDepth 65536 in
theorem w_c14 : (Jvm.Cond.code ({ cls := "java/lang/String", name := "charAt", desc := "(I)C" } : Jvm.MethodName) jdk_42_method_56_code (2 : Nat) (Option.some Jvm.ClassFile.FieldType.char)).before args0 about1 = true := code_word (m := ⟨7, 4⟩) (meth := k7m4) (c := k7c4) (by decide +kernel) rfl rfl rfl (by decide +kernel)
set_option maxRecDepth 65536 in
theorem w_c15 : (Jvm.Cond.code ({ cls := "java/lang/String", name := "isLatin1", desc := "()Z" } : Jvm.MethodName) jdk_42_method_154_code (1 : Nat) (Option.some Jvm.ClassFile.FieldType.boolean)).before args0 about1 = true := code_word (m := ⟨7, 7⟩) (meth := k7m7) (c := k7c7) (by decide +kernel) rfl rfl rfl (by decide +kernel)
set_option maxRecDepth 65536 in
theorem w_c16 : (Jvm.Cond.code ({ cls := "java/lang/StringLatin1", name := "charAt", desc := "([BI)C" } : Jvm.MethodName) jdk_43_method_2_code (2 : Nat) (Option.some Jvm.ClassFile.FieldType.char)).before args0 about1 = true := code_word (m := ⟨11, 1⟩) (meth := k11m1) (c := k11c1) (by decide +kernel) rfl rfl rfl (by decide +kernel)
set_option maxRecDepth 65536 in
theorem w_c17 : (Jvm.Cond.code ({ cls := "java/lang/String", name := "checkIndex", desc := "(II)V" } : Jvm.MethodName) jdk_42_method_155_code (2 : Nat) (Option.none : Option Jvm.ClassFile.FieldType)).before args0 about1 = true := code_word (m := ⟨7, 8⟩) (meth := k7m8) (c := k7c8) (by decide +kernel) rfl rfl rfl (by decide +kernel)
set_option maxRecDepth 65536 in
theorem w_c18 : (Jvm.Cond.code ({ cls := "jdk/internal/util/Preconditions", name := "checkIndex", desc := "(IILjava/util/function/BiFunction;)I" } : Jvm.MethodName) jdk_41_method_11_code (3 : Nat) (Option.some Jvm.ClassFile.FieldType.int)).before args0 about1 = true := code_word (m := ⟨12, 1⟩) (meth := k12m1) (c := k12c1) (by decide +kernel) rfl rfl rfl (by decide +kernel)
def codes1 : List Jvm.Cond := [Jvm.Cond.code x code maxLocals ret, Jvm.Cond.code ({ cls := "com/example/relaystack/relaystack/OptionValuePinLaw", name := "drawn", desc := "(II)Ljava/lang/String;" } : Jvm.MethodName) method_2_code (5 : Nat) (Option.some (Jvm.ClassFile.FieldType.object "java/lang/String")), Jvm.Cond.code ({ cls := "java/lang/String", name := "<init>", desc := "([C)V" } : Jvm.MethodName) jdk_42_method_3_code (2 : Nat) (Option.none : Option Jvm.ClassFile.FieldType), Jvm.Cond.code ({ cls := "java/lang/String", name := "<init>", desc := "([CIILjava/lang/Void;)V" } : Jvm.MethodName) jdk_42_method_149_code (6 : Nat) (Option.none : Option Jvm.ClassFile.FieldType), Jvm.Cond.code ({ cls := "java/lang/Object", name := "<init>", desc := "()V" } : Jvm.MethodName) object_method_1_code (1 : Nat) (Option.none : Option Jvm.ClassFile.FieldType), Jvm.Cond.code ({ cls := "java/lang/StringUTF16", name := "compress", desc := "([CII)[B" } : Jvm.MethodName) jdk_52_method_16_code (6 : Nat) (Option.some (Jvm.ClassFile.FieldType.array Jvm.ClassFile.FieldType.byte)), Jvm.Cond.code ({ cls := "java/lang/StringUTF16", name := "compress", desc := "([CI[BII)I" } : Jvm.MethodName) jdk_52_method_21_code (7 : Nat) (Option.some Jvm.ClassFile.FieldType.int), Jvm.Cond.code ({ cls := "java/lang/StringUTF16", name := "coderFromArrayLen", desc := "([BI)B" } : Jvm.MethodName) jdk_52_method_15_code (2 : Nat) (Option.some Jvm.ClassFile.FieldType.byte), Jvm.Cond.code ({ cls := "com/example/relaystack/relaystack/CommandLine$Option", name := "<init>", desc := "(Ljava/lang/String;Ljava/lang/String;)V" } : Jvm.MethodName) prog_8_method_1_code (3 : Nat) (Option.none : Option Jvm.ClassFile.FieldType), Jvm.Cond.code ({ cls := "java/lang/Record", name := "<init>", desc := "()V" } : Jvm.MethodName) jdk_30_method_1_code (1 : Nat) (Option.none : Option Jvm.ClassFile.FieldType), Jvm.Cond.code ({ cls := "com/example/relaystack/relaystack/CommandLine$Option", name := "value", desc := "()Ljava/lang/String;" } : Jvm.MethodName) prog_8_method_2_code (1 : Nat) (Option.some (Jvm.ClassFile.FieldType.object "java/lang/String")), Jvm.Cond.code ({ cls := "java/lang/String", name := "isEmpty", desc := "()Z" } : Jvm.MethodName) jdk_42_method_55_code (1 : Nat) (Option.some Jvm.ClassFile.FieldType.boolean), Jvm.Cond.code ({ cls := "java/lang/String", name := "length", desc := "()I" } : Jvm.MethodName) jdk_42_method_54_code (1 : Nat) (Option.some Jvm.ClassFile.FieldType.int), Jvm.Cond.code ({ cls := "java/lang/String", name := "coder", desc := "()B" } : Jvm.MethodName) jdk_42_method_152_code (1 : Nat) (Option.some Jvm.ClassFile.FieldType.byte), Jvm.Cond.code ({ cls := "java/lang/String", name := "charAt", desc := "(I)C" } : Jvm.MethodName) jdk_42_method_56_code (2 : Nat) (Option.some Jvm.ClassFile.FieldType.char), Jvm.Cond.code ({ cls := "java/lang/String", name := "isLatin1", desc := "()Z" } : Jvm.MethodName) jdk_42_method_154_code (1 : Nat) (Option.some Jvm.ClassFile.FieldType.boolean), Jvm.Cond.code ({ cls := "java/lang/StringLatin1", name := "charAt", desc := "([BI)C" } : Jvm.MethodName) jdk_43_method_2_code (2 : Nat) (Option.some Jvm.ClassFile.FieldType.char), Jvm.Cond.code ({ cls := "java/lang/String", name := "checkIndex", desc := "(II)V" } : Jvm.MethodName) jdk_42_method_155_code (2 : Nat) (Option.none : Option Jvm.ClassFile.FieldType), Jvm.Cond.code ({ cls := "jdk/internal/util/Preconditions", name := "checkIndex", desc := "(IILjava/util/function/BiFunction;)I" } : Jvm.MethodName) jdk_41_method_11_code (3 : Nat) (Option.some Jvm.ClassFile.FieldType.int)]
set_option maxRecDepth 65536 in
theorem codes_eq : words1.filter isCode = codes1 := rfl
theorem w_codes : ∀ c ∈ words1.filter isCode, c.before args0 about1 = true := by
  rw [codes_eq]
  intro c hc
  simp only [codes1, List.mem_cons, List.not_mem_nil, or_false] at hc
  rcases hc with rfl | rfl | rfl | rfl | rfl | rfl | rfl | rfl | rfl | rfl | rfl | rfl | rfl | rfl | rfl | rfl | rfl | rfl | rfl
  · exact w_c0
  · exact w_c1
  · exact w_c2
  · exact w_c3
  · exact w_c4
  · exact w_c5
  · exact w_c6
  · exact w_c7
  · exact w_c8
  · exact w_c9
  · exact w_c10
  · exact w_c11
  · exact w_c12
  · exact w_c13
  · exact w_c14
  · exact w_c15
  · exact w_c16
  · exact w_c17
  · exact w_c18
set_option maxRecDepth 65536 in
theorem w_t1 : (words1.take 24).all (fun c => isCode c || c.before args0 about1) = true := by decide +kernel
set_option maxRecDepth 65536 in
theorem w_t2 : ((words1.drop 24).take 24).all (fun c => isCode c || c.before args0 about1) = true := by decide +kernel
set_option maxRecDepth 65536 in
theorem w_t3 : (((words1.drop 24).drop 24).take 24).all (fun c => isCode c || c.before args0 about1) = true := by decide +kernel
set_option maxRecDepth 65536 in
theorem w_t4 : ((((words1.drop 24).drop 24).drop 24).take 24).all (fun c => isCode c || c.before args0 about1) = true := by decide +kernel
set_option maxRecDepth 65536 in
theorem w_t5 : ((((words1.drop 24).drop 24).drop 24).drop 24).all (fun c => isCode c || c.before args0 about1) = true := by decide +kernel
theorem w_tables : (allAtoms (Jvm.Cond.code x code maxLocals ret :: tables_1)).before args0 about1 = true := by
  rw [allAtoms_all]
  show words1.all (fun c => c.before args0 about1) = true
  refine all_split ?_ w_codes
  rw [← List.take_append_drop 24 words1, List.all_append, w_t1, ← List.take_append_drop 24 (words1.drop 24), List.all_append, w_t2, ← List.take_append_drop 24 ((words1.drop 24).drop 24), List.all_append, w_t3, ← List.take_append_drop 24 (((words1.drop 24).drop 24).drop 24), List.all_append, w_t4, w_t5]
  rfl
set_option maxRecDepth 65536 in
theorem w_rest : rest_1_c.before args0 about1 = true := by decide +kernel
set_option maxRecDepth 65536 in
theorem w_case : (Jvm.Cond.and given_1 narrow_1).before args0 about1 = true := by decide +kernel
set_option maxRecDepth 65536 in
theorem w_consts : constsHeld consts_1 about1 := Jvm.Lit.constsHeldB_iff.mp (by decide +kernel)
theorem w_applies : (headSpec (Jvm.Cond.code x code maxLocals ret :: tables_1) room_1).applies x e0.platform about1 = true :=
  (Spec.applies_iff w_frames).mpr ⟨w_running, w_runnable, w_alone, w_named, w_hears, w_ripe, w_room, w_tables⟩
theorem atStart : AtStart classFile x code maxLocals ret World_1 tables_1 room_1 Calls_1 rest_1 Pre_1 launch0 p0 e0 about1 theMethod args0 below0 :=
  ⟨lists_1, trivial, launch0.admits_env _ _ _, launch0.least_env, fairChoices_fair.cas, fairChoices_fair.clock, w_frames, w_args, w_heap, w_applies, ⟨w_consts, trivial⟩, w_rest, w_case⟩
end start1
theorem witness_1 : WitnessClaimed_1 := ⟨start1.p0, start1.e0, start1.about1, start1.theMethod, start1.args0, start1.below0, start1.atStart⟩
end Jvm.Pilot.@@N@@
