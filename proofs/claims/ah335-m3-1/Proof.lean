import JvmDerived
import JvmDerived.Pilot.@@N@@Statement
import JvmDerived.Pilot.@@N@@Code
set_option linter.unusedVariables false
set_option linter.unusedSimpArgs false
namespace Jvm.RoadKit
open Sem ClassFile Op Lib Jvm.Stand Jvm.Free Jvm.LawKit
def GoW (p : Program) (e : Env) (below : List Frame) (s : State) (Q : Option Value → Heap → List Loc → Prop) (k n : Nat) (u : State) : Prop :=
  ∃ s₂ o, Steps p.tables e below u s₂ ∧ s₂.status = .running ∧ Ended s₂ below o ∧ ∃ v L, o = .returned v ∧ Q v s₂.heap L ∧ FrameEnd s o s₂ L k n
def PureQ (r : Value) (h0 : Heap) (n0 : Nat) (v : Option Value) (h : Heap) (L : List Loc) : Prop := v = some r ∧ Fr n0 L ∧ h = h0
def ValQ (r : Value) (n0 : Nat) (v : Option Value) (h : Heap) (L : List Loc) : Prop := v = some r ∧ Fr n0 L
section New
variable {p : Program} {l : Launch} {e : Env} {R : Room} {s : State} {m : MethodId} {args : Array Value} {below : List Frame} {meth : Method} {c : Code} {T : State} {locs : List Loc} {cells slots : Nat} {Q : Option Value → Heap → List Loc → Prop} {k n : Nat} {u v : State}
theorem GoW.mk (h : GoW p e below s Q k n u) : ∃ s₂ o, Steps p.tables e below u s₂ ∧ s₂.status = .running ∧ Ended s₂ below o ∧ ∃ v L, o = .returned v ∧ Q v s₂.heap L ∧ FrameEnd s o s₂ L k n := h
theorem GoW.st (h : ∀ t, Steps p.tables e below u t → Steps p.tables e below v t) (q : GoW p e below s Q k n u) : GoW p e below s Q k n v := by
  obtain ⟨s₂, o, h1, h2⟩ := q; exact ⟨s₂, o, h _ h1, h2⟩
theorem GoW.sg {T' : State} (g' : JFrame) (h : ∀ t, Steps p.tables e below (T'.setTop g') t → Steps p.tables e below v t) (q : GoW p e below s Q k n (T'.setTop g')) : GoW p e below s Q k n v := GoW.st h q
theorem retI (X : Stand p l e R s m args below meth c T locs cells slots) (hx : p.tables.exec = Jvm.exec) {pc : Nat} {Ls : Array Slot} {z : Int32} {rest : List Value} (hret : meth.sig.returnType = some .int) (hd : decode c.code pc = .ok (.ireturn, 1)) {fs : List Frame}
    (hl : ∀ (f : JFrame) (acts : List Action), f.method = m → f.locked = none → f.entered = [] → (doReturn e (T.setTop f) acts (some (.int z))).1 = T.setFrames fs) : Steps p.tables e below (T.setTop (mkF m pc Ls (.int z :: rest))) (T.setFrames fs) := by
  have hm' : T.vm.method? m = some meth := X.method'
  have hn : narrow .int (.int z) = .int z := rfl
  show Steps p.tables e below (T.setTop { method := m, pc := pc, locals := Ls, stack := _ :: rest, locked := none }) _
  jvm_step X.here [X.here.top, hx, hd, hm', hret, hn]
  first | (intro acts; rw [hl _ acts rfl rfl rfl]) | rw [hl _ _ rfl rfl rfl]
  exact Steps.refl _
theorem GoW.retN (X : Stand p l e R s m args below meth c T locs cells slots) (hx : p.tables.exec = Jvm.exec) {pc : Nat} {Ls : Array Slot} {z : Int32} {t : FieldType} {rest : List Value} (hret : meth.sig.returnType = some t) (ht : t = .boolean ∨ t = .byte ∨ t = .char ∨ t = .short)
    (hd : decode c.code pc = .ok (.ireturn, 1)) (hlk : meth.locks = false) (hq : Q (some (.int (nar t z))) T.heap locs) (hk : cells ≤ k) (hn : slots ≤ n) : GoW p e below s Q k n (T.setTop (mkF m pc Ls (.int z :: rest))) := by
  obtain ⟨fs, hr, hrun, hended, hW, hsame⟩ := X.leave (v := some (.int (nar t z))) (fun h => by rw [hret] at h; cases h) hlk
  exact ⟨_, _, Jvm.RoadKit.retN X hx hret ht hd hr, hrun, hended, _, _, rfl, hq, ⟨_, rfl⟩, hW, hsame.mono hk hn⟩
theorem GoW.retI (X : Stand p l e R s m args below meth c T locs cells slots) (hx : p.tables.exec = Jvm.exec) {pc : Nat} {Ls : Array Slot} {z : Int32} {rest : List Value} (hret : meth.sig.returnType = some .int)
    (hd : decode c.code pc = .ok (.ireturn, 1)) (hlk : meth.locks = false) (hq : Q (some (.int z)) T.heap locs) (hk : cells ≤ k) (hn : slots ≤ n) : GoW p e below s Q k n (T.setTop (mkF m pc Ls (.int z :: rest))) := by
  obtain ⟨fs, hr, hrun, hended, hW, hsame⟩ := X.leave (v := some (.int z)) (fun h => by rw [hret] at h; cases h) hlk
  exact ⟨_, _, Jvm.RoadKit.retI X hx hret hd hr, hrun, hended, _, _, rfl, hq, ⟨_, rfl⟩, hW, hsame.mono hk hn⟩
theorem GoW.retL (X : Stand p l e R s m args below meth c T locs cells slots) (hx : p.tables.exec = Jvm.exec) {pc : Nat} {Ls : Array Slot} {z : Int64} {rest : List Value} (hret : meth.sig.returnType = some .long)
    (hd : decode c.code pc = .ok (.lreturn, 1)) (hlk : meth.locks = false) (hq : Q (some (.long z)) T.heap locs) (hk : cells ≤ k) (hn : slots ≤ n) : GoW p e below s Q k n (T.setTop (mkF m pc Ls (.long z :: rest))) := by
  obtain ⟨fs, hr, hrun, hended, hW, hsame⟩ := X.leave (v := some (.long z)) (fun h => by rw [hret] at h; cases h) hlk
  exact ⟨_, _, retOut X hx hret rfl (Or.inr (Or.inl ⟨rfl, rfl, z, rfl⟩)) hd hr, hrun, hended, _, _, rfl, hq, ⟨_, rfl⟩, hW, hsame.mono hk hn⟩
theorem GoW.retA (X : Stand p l e R s m args below meth c T locs cells slots) (hx : p.tables.exec = Jvm.exec) {pc : Nat} {Ls : Array Slot} {w : Value} {t : FieldType} {rest : List Value} (hret : meth.sig.returnType = some t) (hw : w.isRef = true) (ht : t.isReference = true)
    (hn' : narrow t w = w) (hd : decode c.code pc = .ok (.areturn, 1)) (hlk : meth.locks = false) (hq : Q (some w) T.heap locs) (hk : cells ≤ k) (hn : slots ≤ n) : GoW p e below s Q k n (T.setTop (mkF m pc Ls (w :: rest))) := by
  obtain ⟨fs, hr, hrun, hended, hW, hsame⟩ := X.leave (v := some w) (fun h => by rw [hret] at h; cases h) hlk
  exact ⟨_, _, retOut X hx hret hn' (Or.inr (Or.inr (Or.inr (Or.inr ⟨rfl, ht, hw⟩)))) hd hr, hrun, hended, _, _, rfl, hq, ⟨_, rfl⟩, hW, hsame.mono hk hn⟩
theorem GoW.retV (X : Stand p l e R s m args below meth c T locs cells slots) (hx : p.tables.exec = Jvm.exec) {pc : Nat} {Ls : Array Slot} (hret : meth.sig.returnType = none)
    (hd : decode c.code pc = .ok (.return_, 1)) (hlk : meth.locks = false) (hq : Q none T.heap locs) (hk : cells ≤ k) (hn : slots ≤ n) : GoW p e below s Q k n (T.setTop (mkF m pc Ls [])) := by
  obtain ⟨fs, hr, hrun, hended, hW, hsame⟩ := X.leave (v := none) (fun _ => rfl) hlk
  exact ⟨_, _, X.returnOut hx hret hd hr, hrun, hended, _, _, rfl, hq, ⟨_, rfl⟩, hW, hsame.mono hk hn⟩
theorem hq_ {T : State} {h : Heap} {a : Addr} {c : Cell} (e : T.heap = h) (q : h[a]? = some c) : T.heap[a]? = some c := by rw [e]; exact q
theorem own_b53 (x : Int32) : B53 x.toInt64 := by
  have h := rng32 x
  unfold B53; rw [Int32.toInt_toInt64]; omega
theorem own_eqI {args : Array Value} {first s : State} {o : Option Outcome} {idx : List Nat} {t : Term} {i : Int32} (h : (Jvm.Cond.eq t (.int i)).value args first o s idx = some true) : t.eval args first o idx s = some (.int i) := by
  obtain ⟨x, y, hx, hy, k1, k2⟩ := cmp_v (Or.inl h)
  rw [Term.int_eval] at hy
  cases hy
  obtain ⟨z, rfl⟩ := k2
  have q := gotT (Cond.eq_ints hx (Term.int_eval i)) h
  rw [hx, q]
theorem own_ne {args : Array Value} {first s : State} {o : Option Outcome} {idx : List Nat} {t u : Term} {C n d : String} {i j : Int32} {a b : Addr} (h1 : (Jvm.Cond.eq (.field t C n d) (.int i)).value args first o s idx = some true) (h2 : (Jvm.Cond.eq (.field u C n d) (.int j)).value args first o s idx = some true)
    (ha : t.eval args first o idx s = some (.ref a)) (hb : u.eval args first o idx s = some (.ref b)) (hij : i ≠ j) : a ≠ b := fun e => by
  subst e
  have q1 := own_eqI h1
  have q2 := own_eqI h2
  rw [fld_at ha] at q1
  rw [fld_at hb, q1] at q2
  exact hij (by cases q2; rfl)
theorem own_staK0 {Z : State} {h h' : Heap} {C n d : String} {v : Value} (F : Sta Z h C n d v) (K : Keep h h' []) : Sta Z h' C n d v := by
  obtain ⟨cf, i, k, f, st, cell, h1, h2, h3, h4, h5, r⟩ := F; exact ⟨cf, i, k, f, st, cell, h1, h2, h3, h4, K.2.1 _ _ h5 nin0, r⟩
def NSt (h : Heap) (a : Addr) : Prop := ∀ c : Cell, h[a]? = some c → c.vm.isStatics = false
theorem own_nsE {Z : State} {h : Heap} {a : Addr} {C : String} (E : Exa Z h a C) : NSt h a := fun c hc => by
  obtain ⟨cell2, k2, g1, -, -, g2, -⟩ := E
  cases hc.symm.trans g1
  exact g2
theorem own_nsA {Z : State} {h : Heap} {a : Addr} {k : ClassId} {ty : FieldType} {z : Int32} {vs : List Value} {dv : Value} (A : Arv Z h a k ty z vs dv) : NSt h a := fun c hc => by
  obtain ⟨cl, A, -⟩ := A
  cases hc.symm.trans A.1
  exact A.plain
theorem own_staK {Z : State} {h h' : Heap} {C n d : String} {v : Value} {ws : List Addr} (F : Sta Z h C n d v) (K : Keep h h' ws) (E : ∀ x ∈ ws, NSt h x) : Sta Z h' C n d v := by
  obtain ⟨cf, i, k, f, st, cell, h1, h2, h3, h4, h5, h6, r⟩ := F
  refine ⟨cf, i, k, f, st, cell, h1, h2, h3, h4, K.2.1 _ _ h5 (fun q => ?_), h6, r⟩
  have := E st q cell h5
  rw [h6] at this; cases this
theorem GoW.retD (X : Stand p l e R s m args below meth c T locs cells slots) (hx : p.tables.exec = Jvm.exec) {pc : Nat} {Ls : Array Slot} {z : UInt64} {rest : List Value} (hret : meth.sig.returnType = some .double)
    (hd : decode c.code pc = .ok (.dreturn, 1)) (hlk : meth.locks = false) (hq : Q (some (.double z)) T.heap locs) (hk : cells ≤ k) (hn : slots ≤ n) : GoW p e below s Q k n (T.setTop (mkF m pc Ls (.double z :: rest))) := by
  obtain ⟨fs, hr, hrun, hended, hW, hsame⟩ := X.leave (v := some (.double z)) (fun h => by rw [hret] at h; cases h) hlk
  exact ⟨_, _, retOut X hx hret rfl (Or.inr (Or.inr (Or.inl ⟨rfl, rfl, z, rfl⟩))) hd hr, hrun, hended, _, _, rfl, hq, ⟨_, rfl⟩, hW, hsame.mono hk hn⟩
theorem own_pop2L {tb : Tables} [Ours tb] {e : Env} {below : List Frame} {T target : State} {m : MethodId} {c : Code} {g : JFrame} (h : At T m c below) (hx : tb.exec = Jvm.exec) (hg : g.method = m) {x : Int64} {rest : List Value} (hd : decode c.code g.pc = .ok (.pop2, 1)) (hs : g.stack = .long x :: rest)
    (hr : Steps tb e below (T.setTop { g with pc := g.pc + 1, stack := rest }) target) : Steps tb e below (T.setTop g) target := by
  subst hg
  jvm_step h [h.top, hx, hd, hs, Value.category]
  exact hr
theorem own_callS {Z : State} {a0 : Array Value} {h : Heap} (X : Stand p l e R s m args below meth c T locs cells slots) (hx : p.tables.exec = Jvm.exec) (hZ : Z.Warmed39 s.vm) {own : String} {index : Nat} {y : MethodName} {bytes : ByteArray} {maxL : Nat} {ret : Option FieldType}
    (hown : s.vm.findClass own = some m.cls) (w1 : (Jvm.Cond.methodLink own index y).before a0 Z = true) (w2 : (Jvm.Cond.static y).before a0 Z = true) (w3 : (Jvm.Cond.initialized y.cls).before a0 Z = true) (w4 : (Jvm.Cond.code y bytes maxL ret).before a0 Z = true)
    (hy : y.cls ≠ "java/lang/invoke/MethodHandle" ∧ y.cls ≠ "java/lang/invoke/VarHandle") (W : Nat) {rm : Room} {argsL rest : List Value} {Q : Option Value → Heap → List Loc → Prop}
    (hM : MetFree l y (head1 [Jvm.Cond.code y bytes maxL ret] rm) (fun a U => a = argsL.toArray ∧ Z.Warmed39 U.vm ∧ U.heap = h) (fun _ _ _ _ _ => True) (fun _ U o U' => ∃ v L, o = .returned v ∧ Q v U'.heap L ∧ FrameEnd U o U' L rm.cells rm.slots))
    (hf : rm.frames + 1 ≤ R.frames) (hl : W + (maxL + 11) + rm.locals ≤ R.locals) (eT : T.heap = h) (hc : cells + rm.cells ≤ R.cells) (hs : slots + rm.slots ≤ R.slots)
    {g : JFrame} (hg : g.method = m) (hsize : g.locals.size = c.maxLocals) (hlen : ∀ sig, parseMethodDescriptor y.desc = some sig → argsL.length = sig.parameters.length)
    (hstack : g.stack = argsL.reverse ++ rest) (hW : 2 * g.monitorRoom + (rest.map fun v => v.category).sum ≤ W) (hdg : decode c.code g.pc = .ok (.invokestatic index, 3)) :
    ∃ (v : Option Value) (T' : State) (L : List Loc), Stand p l e R s m args below meth c T' (locs ++ L) (cells + rm.cells) (slots + rm.slots) ∧ Q v T'.heap L ∧
      ∀ target, Steps p.tables e below (T'.setTop { g with pc := g.pc + 3, stack := v.toList ++ rest }) target → Steps p.tables e below (T.setTop g) target := by
  obtain ⟨v, _, ⟨T', L', k', n'⟩, -, X', ⟨Lc, hQ, l', y', z'⟩, st⟩ := Jvm.LawKit.callS X hx (y := y) hown (mvT hZ w1) (mvT hZ w2) (mvT hZ w3) (mvT hZ w4) hy (backOf (W := W) hM hZ w4 w3 hf hl) (g := g) hg hsize (argsL := argsL) (rest := rest) hlen hstack hW hdg (fun _ _ => ⟨rfl, eT, hc, hs⟩)
  dsimp only [Pt.U, Pt.locs, Pt.cells, Pt.slots] at X' l' y' z' st hQ
  subst l' y' z'
  exact ⟨v, T', Lc, X', hQ, st⟩
def GoV (p : Program) (e : Env) (below : List Frame) (s : State) (Q : Option Value → Heap → List Loc → Prop) (k n : Nat) (u : State) : Prop :=
  ∃ s₂ o, Steps p.tables e below u s₂ ∧ s₂.status = .running ∧ Ended s₂ below o ∧ ∃ v L, o = .returned v ∧ Q v s₂.heap L ∧ ReturnedEndW s o s₂ L k n
theorem GoV.mk (h : GoV p e below s Q k n u) : ∃ s₂ o, Steps p.tables e below u s₂ ∧ s₂.status = .running ∧ Ended s₂ below o ∧ ∃ v L, o = .returned v ∧ Q v s₂.heap L ∧ ReturnedEndW s o s₂ L k n := h
theorem GoV.st (h : ∀ t, Steps p.tables e below u t → Steps p.tables e below v t) (q : GoV p e below s Q k n u) : GoV p e below s Q k n v := by
  obtain ⟨s₂, o, h1, h2⟩ := q; exact ⟨s₂, o, h _ h1, h2⟩
theorem GoV.sg {T' : State} (g' : JFrame) (h : ∀ t, Steps p.tables e below (T'.setTop g') t → Steps p.tables e below v t) (q : GoV p e below s Q k n (T'.setTop g')) : GoV p e below s Q k n v := GoV.st h q
theorem GoV.retN {vm1 : Vm} {n1 : Nat} (X : Stand p l e R (s.setVm vm1) m args below meth c T locs cells slots) (hS : s.Since vm1 n1) (h1 : n1 ≤ T.heap.size) (hx : p.tables.exec = Jvm.exec) {pc : Nat} {Ls : Array Slot} {z : Int32} {t : FieldType} {rest : List Value} (hret : meth.sig.returnType = some t) (ht : t = .boolean ∨ t = .byte ∨ t = .char ∨ t = .short)
    (hd : decode c.code pc = .ok (.ireturn, 1)) (hlk : meth.locks = false) (hq : Q (some (.int (nar t z))) T.heap locs) (hk : cells ≤ k) (hn : slots ≤ n) : GoV p e below s Q k n (T.setTop (mkF m pc Ls (.int z :: rest))) := by
  obtain ⟨fs, hr, hrun, hended, hv, hW, hB, hs⟩ := X.leaveW hS h1 (v := some (.int (nar t z))) (fun h => by rw [hret] at h; cases h) hlk
  exact ⟨_, _, Jvm.RoadKit.retN X hx hret ht hd hr, hrun, hended, _, _, rfl, hq, hv, hW, hB, hs.mono hk hn⟩
def GoU (p : Program) (e : Env) (below : List Frame) (s : State) (Q : Option Value → Heap → Vm → List Loc → Prop) (k n : Nat) (u : State) : Prop :=
  ∃ s₂ o, Steps p.tables e below u s₂ ∧ s₂.status = .running ∧ Ended s₂ below o ∧ ∃ v L, o = .returned v ∧ Q v s₂.heap s₂.vm L ∧ ReturnedEndW s o s₂ L k n
section Wide
variable {QQ : Option Value → Heap → Vm → List Loc → Prop}
theorem GoU.mk (h : GoU p e below s QQ k n u) : ∃ s₂ o, Steps p.tables e below u s₂ ∧ s₂.status = .running ∧ Ended s₂ below o ∧ ∃ v L, o = .returned v ∧ QQ v s₂.heap s₂.vm L ∧ ReturnedEndW s o s₂ L k n := h
theorem GoU.st (h : ∀ t, Steps p.tables e below u t → Steps p.tables e below v t) (q : GoU p e below s QQ k n u) : GoU p e below s QQ k n v := by
  obtain ⟨s₂, o, h1, h2⟩ := q; exact ⟨s₂, o, h _ h1, h2⟩
theorem GoU.sg {T' : State} (g' : JFrame) (h : ∀ t, Steps p.tables e below (T'.setTop g') t → Steps p.tables e below v t) (q : GoU p e below s QQ k n (T'.setTop g')) : GoU p e below s QQ k n v := GoU.st h q
theorem GoU.retV {vm1 : Vm} {n1 : Nat} (X : Stand p l e R (s.setVm vm1) m args below meth c T locs cells slots) (hS : s.Since vm1 n1) (h1 : n1 ≤ T.heap.size) (hx : p.tables.exec = Jvm.exec) {pc : Nat} {Ls : Array Slot} (hret : meth.sig.returnType = none)
    (hd : decode c.code pc = .ok (.return_, 1)) (hlk : meth.locks = false) (hq : QQ none T.heap T.vm locs) (hk : cells ≤ k) (hn : slots ≤ n) : GoU p e below s QQ k n (T.setTop (mkF m pc Ls [])) := by
  obtain ⟨fs, hr, hrun, hended, hv, hW, hB, hs⟩ := X.leaveW hS h1 (v := none) (fun _ => rfl) hlk
  exact ⟨_, _, X.returnOut hx hret hd hr, hrun, hended, _, _, rfl, hq, hv, hW, hB, hs.mono hk hn⟩
theorem GoU.retA {vm1 : Vm} {n1 : Nat} (X : Stand p l e R (s.setVm vm1) m args below meth c T locs cells slots) (hS : s.Since vm1 n1) (h1 : n1 ≤ T.heap.size) (hx : p.tables.exec = Jvm.exec) {pc : Nat} {Ls : Array Slot} {w : Value} {t : FieldType} {rest : List Value} (hret : meth.sig.returnType = some t) (hw : w.isRef = true) (ht : t.isReference = true)
    (hn' : narrow t w = w) (hd : decode c.code pc = .ok (.areturn, 1)) (hlk : meth.locks = false) (hq : QQ (some w) T.heap T.vm locs) (hk : cells ≤ k) (hn : slots ≤ n) : GoU p e below s QQ k n (T.setTop (mkF m pc Ls (w :: rest))) := by
  obtain ⟨fs, hr, hrun, hended, hv, hW, hB, hs⟩ := X.leaveW hS h1 (v := some w) (fun h => by rw [hret] at h; cases h) hlk
  exact ⟨_, _, retOut X hx hret hn' (Or.inr (Or.inr (Or.inr (Or.inr ⟨rfl, ht, hw⟩)))) hd hr, hrun, hended, _, _, rfl, hq, hv, hW, hB, hs.mono hk hn⟩
theorem own_ibW {Z : State} {vm0 vm1 : Vm} {Ts : List String} (I : IB Z vm0 Ts) (h : vm1.interned = vm0.interned) : IB Z vm1 Ts := by
  obtain ⟨more, h1, h2⟩ := I; exact ⟨more, h.trans h1, h2⟩
theorem own_backU {Z : State} {a0 : Array Value} {h : Heap} {y : MethodName} {bytes : ByteArray} {maxL : Nat} {ret : Option FieldType} {rm : Room} {len W : Nat} {as' : Array Value} {PV : Vm → Prop}
    (hM : MetFree l y (head1 [Jvm.Cond.code y bytes maxL ret] rm) (fun a U => a = as' ∧ Z.Warmed39 U.vm ∧ U.heap = h ∧ PV U.vm) (fun _ _ _ _ _ => True) (fun _ U o U' => ∃ v L, o = .returned v ∧ QQ v U'.heap U'.vm L ∧ ReturnedEndW U o U' L rm.cells rm.slots))
    (hZ : Z.Warmed39 s.vm) (hI : ∀ vm1, s.WarmedH vm1 → PV vm1) (wc : (Jvm.Cond.code y bytes maxL ret).before a0 Z = true) (wz : (Jvm.Cond.initialized y.cls).before a0 Z = true) (hf : rm.frames + 1 ≤ R.frames) (hl : W + (maxL + 11) + rm.locals ≤ R.locals) :
    BackS l R p e below s args y len W (fun A a => a = as' ∧ A.U.heap = h ∧ A.cells + rm.cells ≤ R.cells ∧ A.slots + rm.slots ≤ R.slots)
      (fun A _ v B => ∃ L, QQ v B.U.heap B.U.vm L ∧ B.locs = A.locs ++ L ∧ B.cells = A.cells + rm.cells ∧ B.slots = A.slots + rm.slots) :=
  BackS.of_freeW (bytes := bytes) (maxL := maxL) (ret := ret) (E := fun _ _ o t L k n => k = rm.cells ∧ n = rm.slots ∧ ∃ v, o = .returned v ∧ QQ v t.heap t.vm L) hM hf hl
    (fun m meth c A a Y hp => have hU : Z.Warmed39 A.U.vm := wtrans hZ Y.warmed
      ⟨by show (Jvm.Cond.and _ .tt).before a A.U = true; rw [Cond.before_and, mv hU wc]; rfl, mv hU wc, mv hU wz, hp.2.2.1, hp.2.2.2⟩)
    (fun m meth c A a g mk Y hp => ⟨hp.1, wtrans hZ Y.warmed, hp.2.1, hI _ Y.warmed⟩) (fun _ _ _ _ _ _ _ _ _ => trivial)
    (fun _ _ _ _ ⟨v, L, h1, h2, h3⟩ => ⟨L, _, _, h3, rfl, rfl, v, h1, h2⟩)
    (fun m meth c A a g mk v t L k n Y hp _ _ ⟨e1, e2, v', e3, e4⟩ => by cases e3; subst e1 e2; exact ⟨L, e4, rfl, rfl, rfl⟩)
theorem own_specU {Z : State} {a0 : Array Value} {h : Heap} {vm0 : Vm} {k0 : Nat} (X : Stand p l e R (s.setVm vm0) m args below meth c T locs cells slots) (hx : p.tables.exec = Jvm.exec) (hZ : Z.Warmed39 (s.setVm vm0).vm) (hS : s.Since vm0 k0) (hk0 : k0 ≤ h.size) {own : String} {index : Nat} {y : MethodName} {bytes : ByteArray} {maxL : Nat} (hy1 : y.name = "<init>")
    (hown : (s.setVm vm0).vm.findClass own = some m.cls) (w1 : (Jvm.Cond.methodLink own index y).before a0 Z = true) (w2 : (Jvm.Cond.instanceMethod y).before a0 Z = true) (w3 : (Jvm.Cond.initialized y.cls).before a0 Z = true) (w4 : (Jvm.Cond.code y bytes maxL none).before a0 Z = true)
    (hy : y.cls ≠ "java/lang/invoke/MethodHandle" ∧ y.cls ≠ "java/lang/invoke/VarHandle") (W : Nat) {rm : Room} {a : Addr} {argsL rest : List Value} {PV : Vm → Prop}
    (hM : MetFree l y (head1 [Jvm.Cond.code y bytes maxL none] rm) (fun a' U => a' = (Value.ref a :: argsL).toArray ∧ Z.Warmed39 U.vm ∧ U.heap = h ∧ PV U.vm) (fun _ _ _ _ _ => True) (fun _ U o U' => ∃ v L, o = .returned v ∧ QQ v U'.heap U'.vm L ∧ ReturnedEndW U o U' L rm.cells rm.slots)) (hI : ∀ vm1, (s.setVm vm0).WarmedH vm1 → PV vm1)
    (hf : rm.frames + 1 ≤ R.frames) (hl : W + (maxL + 11) + rm.locals ≤ R.locals) (eT : T.heap = h) (hc : cells + rm.cells ≤ R.cells) (hs : slots + rm.slots ≤ R.slots)
    {g : JFrame} (hg : g.method = m) (hsize : g.locals.size = c.maxLocals) (hlen : ∀ sig, parseMethodDescriptor y.desc = some sig → argsL.length = sig.parameters.length)
    (hstack : g.stack = argsL.reverse ++ .ref a :: rest) (hW : 2 * g.monitorRoom + (rest.map fun v => v.category).sum ≤ W) (hdg : decode c.code g.pc = .ok (.invokespecial index, 3)) :
    ∃ (v : Option Value) (T' : State) (L : List Loc), Stand p l e R (s.setVm T'.vm) m args below meth c T' (locs ++ L) (cells + rm.cells) (slots + rm.slots) ∧ s.Since T'.vm T'.heap.size ∧ Z.Warmed39 (s.setVm T'.vm).vm ∧ (s.setVm T'.vm).vm.findClass own = some m.cls ∧ QQ v T'.heap T'.vm L ∧
      ∀ target, Steps p.tables e below (T'.setTop { g with pc := g.pc + 3, stack := v.toList ++ rest }) target → Steps p.tables e below (T.setTop g) target := by
  obtain ⟨v, _, ⟨T', L', k', n'⟩, -, X', hS', hgr, ⟨Lc, hQ, l', y', z'⟩, st⟩ := X.specialBackS hx (y := y) hy1 hown (mvT hZ w1) (mvT hZ w2) (mvT hZ w4) hy (own_backU (W := W) hM hZ hI w4 w3 hf hl) (g := g) hg hsize (Steps.refl _) (a := a) (argsL := argsL) (rest := rest) hlen hstack hW hdg (fun _ _ => ⟨rfl, eT, hc, hs⟩)
  dsimp only [Pt.U, Pt.locs, Pt.cells, Pt.slots] at X' l' y' z' st hQ hS' hgr
  subst l' y' z'
  exact ⟨v, T', Lc, X', foldS hS (by rw [eT]; exact hk0) hS' hgr, State.Warmed39.trans (t := s.setVm vm0) hZ hS'.1, by rw [show (s.setVm T'.vm).vm = T'.vm from rfl, hS'.1.alike.findClass]; exact hown, hQ, fun t k => st.trans k⟩
theorem own_callU {Z : State} {a0 : Array Value} {h : Heap} {vm0 : Vm} {k0 : Nat} (X : Stand p l e R (s.setVm vm0) m args below meth c T locs cells slots) (hx : p.tables.exec = Jvm.exec) (hZ : Z.Warmed39 (s.setVm vm0).vm) (hS : s.Since vm0 k0) (hk0 : k0 ≤ h.size) {own : String} {index : Nat} {y : MethodName} {bytes : ByteArray} {maxL : Nat} {ret : Option FieldType}
    (hown : (s.setVm vm0).vm.findClass own = some m.cls) (w1 : (Jvm.Cond.methodLink own index y).before a0 Z = true) (w2 : (Jvm.Cond.static y).before a0 Z = true) (w3 : (Jvm.Cond.initialized y.cls).before a0 Z = true) (w4 : (Jvm.Cond.code y bytes maxL ret).before a0 Z = true)
    (hy : y.cls ≠ "java/lang/invoke/MethodHandle" ∧ y.cls ≠ "java/lang/invoke/VarHandle") (W : Nat) {rm : Room} {argsL rest : List Value} {PV : Vm → Prop}
    (hM : MetFree l y (head1 [Jvm.Cond.code y bytes maxL ret] rm) (fun a' U => a' = argsL.toArray ∧ Z.Warmed39 U.vm ∧ U.heap = h ∧ PV U.vm) (fun _ _ _ _ _ => True) (fun _ U o U' => ∃ v L, o = .returned v ∧ QQ v U'.heap U'.vm L ∧ ReturnedEndW U o U' L rm.cells rm.slots)) (hI : ∀ vm1, (s.setVm vm0).WarmedH vm1 → PV vm1)
    (hf : rm.frames + 1 ≤ R.frames) (hl : W + (maxL + 11) + rm.locals ≤ R.locals) (eT : T.heap = h) (hc : cells + rm.cells ≤ R.cells) (hs : slots + rm.slots ≤ R.slots)
    {g : JFrame} (hg : g.method = m) (hsize : g.locals.size = c.maxLocals) (hlen : ∀ sig, parseMethodDescriptor y.desc = some sig → argsL.length = sig.parameters.length)
    (hstack : g.stack = argsL.reverse ++ rest) (hW : 2 * g.monitorRoom + (rest.map fun v => v.category).sum ≤ W) (hdg : decode c.code g.pc = .ok (.invokestatic index, 3)) :
    ∃ (v : Option Value) (T' : State) (L : List Loc), Stand p l e R (s.setVm T'.vm) m args below meth c T' (locs ++ L) (cells + rm.cells) (slots + rm.slots) ∧ s.Since T'.vm T'.heap.size ∧ Z.Warmed39 (s.setVm T'.vm).vm ∧ (s.setVm T'.vm).vm.findClass own = some m.cls ∧ QQ v T'.heap T'.vm L ∧
      ∀ target, Steps p.tables e below (T'.setTop { g with pc := g.pc + 3, stack := v.toList ++ rest }) target → Steps p.tables e below (T.setTop g) target := by
  obtain ⟨v, _, ⟨T', L', k', n'⟩, -, X', hS', hgr, ⟨Lc, hQ, l', y', z'⟩, st⟩ := callSS X hx (y := y) hown (mvT hZ w1) (mvT hZ w2) (mvT hZ w3) (mvT hZ w4) hy (own_backU (W := W) hM hZ hI w4 w3 hf hl) (g := g) hg hsize (argsL := argsL) (rest := rest) hlen hstack hW hdg (fun _ _ => ⟨rfl, eT, hc, hs⟩)
  dsimp only [Pt.U, Pt.locs, Pt.cells, Pt.slots] at X' l' y' z' st hQ hS' hgr
  subst l' y' z'
  exact ⟨v, T', Lc, X', foldS hS (by rw [eT]; exact hk0) hS' hgr, State.Warmed39.trans (t := s.setVm vm0) hZ hS'.1, by rw [show (s.setVm T'.vm).vm = T'.vm from rfl, hS'.1.alike.findClass]; exact hown, hQ, fun t k => st.trans k⟩
end Wide
end New
end Jvm.RoadKit
namespace Jvm.Pilot.@@N@@
open Jvm Jvm.ClassFile Sem Op Lib Jvm.Free Jvm.Stand Jvm.LawKit Jvm.RoadKit Bundle Jvm.Pilot.@@N@@.Jvm.D
theorem ww {Z : State} {a0 : Array Value} (hw : ∀ d ∈ tables_1, d.before a0 Z = true) (i : Nat) {d : Jvm.Cond} (h : tables_1[i]? = some d) : d.before a0 Z = true := hw _ (List.mem_of_getElem? h)
theorem pn_com_example_saunter_saunter_geo_Bounds : plainName "com/example/saunter/saunter/geo/Bounds" = true := by first | (simp [plainName, overriddenIn]; done) | decide +kernel
abbrev Sh0 (p0 : Addr) (p1 : UInt64) (p2 : UInt64) (p3 : UInt64) (p4 : UInt64) : Array Slot := #[.val (.ref p0), .val (.double p1), .second, .val (.double p2), .second, .val (.double p3), .second, .val (.double p4), .second]
theorem d1_0 : decode prog_2_method_1_code 0 = .ok (.aload_n 0, 1) := by decide +kernel
theorem pn_java_lang_Record : plainName "java/lang/Record" = true := by first | (simp [plainName, overriddenIn]; done) | decide +kernel
theorem d2_0 : decode jdk_30_method_1_code 0 = .ok (.aload_n 0, 1) := by decide +kernel
theorem d2_1 : decode jdk_30_method_1_code 1 = .ok (.invokespecial 1, 3) := by decide +kernel
theorem d2_4 : decode jdk_30_method_1_code 4 = .ok (.return_, 1) := by decide +kernel
abbrev Y2 : MethodName := ⟨"java/lang/Record", "<init>", "()V"⟩
theorem pd_2829V : parseMethodDescriptor "()V" = some ⟨[], none⟩ := by decide +kernel
theorem d1_1 : decode prog_2_method_1_code 1 = .ok (.invokespecial 1, 3) := by decide +kernel
theorem d1_4 : decode prog_2_method_1_code 4 = .ok (.aload_n 0, 1) := by decide +kernel
theorem d1_5 : decode prog_2_method_1_code 5 = .ok (.dload_n 1, 1) := by decide +kernel
theorem d1_6 : decode prog_2_method_1_code 6 = .ok (.putfield 7, 3) := by decide +kernel
theorem d1_9 : decode prog_2_method_1_code 9 = .ok (.aload_n 0, 1) := by decide +kernel
theorem d1_10 : decode prog_2_method_1_code 10 = .ok (.dload_n 3, 1) := by decide +kernel
theorem d1_11 : decode prog_2_method_1_code 11 = .ok (.putfield 13, 3) := by decide +kernel
theorem d1_14 : decode prog_2_method_1_code 14 = .ok (.aload_n 0, 1) := by decide +kernel
theorem d1_15 : decode prog_2_method_1_code 15 = .ok (.dload 5, 2) := by decide +kernel
theorem d1_17 : decode prog_2_method_1_code 17 = .ok (.putfield 16, 3) := by decide +kernel
theorem d1_20 : decode prog_2_method_1_code 20 = .ok (.aload_n 0, 1) := by decide +kernel
theorem d1_21 : decode prog_2_method_1_code 21 = .ok (.dload 7, 2) := by decide +kernel
theorem d1_23 : decode prog_2_method_1_code 23 = .ok (.putfield 19, 3) := by decide +kernel
theorem d1_26 : decode prog_2_method_1_code 26 = .ok (.return_, 1) := by decide +kernel
abbrev Y1 : MethodName := ⟨"com/example/saunter/saunter/geo/Bounds", "<init>", "(DDDD)V"⟩
theorem d4_0 : decode prog_2_method_11_code 0 = .ok (.aload_n 0, 1) := by decide +kernel
theorem d4_1 : decode prog_2_method_11_code 1 = .ok (.getfield 7, 3) := by decide +kernel
theorem d4_4 : decode prog_2_method_11_code 4 = .ok (.aload_n 0, 1) := by decide +kernel
theorem d4_5 : decode prog_2_method_11_code 5 = .ok (.getfield 16, 3) := by decide +kernel
theorem d4_8 : decode prog_2_method_11_code 8 = .ok (.dadd, 1) := by decide +kernel
theorem d4_9 : decode prog_2_method_11_code 9 = .ok (.ldc2_w 46, 3) := by decide +kernel
theorem d4_12 : decode prog_2_method_11_code 12 = .ok (.ddiv, 1) := by decide +kernel
theorem d4_13 : decode prog_2_method_11_code 13 = .ok (.dreturn, 1) := by decide +kernel
abbrev Y4 : MethodName := ⟨"com/example/saunter/saunter/geo/Bounds", "middleLatitude", "()D"⟩
theorem pn_com_example_saunter_saunter_geo_BoundsMiddleLatitudePinLaw : plainName "com/example/saunter/saunter/geo/BoundsMiddleLatitudePinLaw" = true := by first | (simp [plainName, overriddenIn]; done) | decide +kernel
abbrev Sh1 (p0 : Int32) (p1 : Int32) (p2 : Int32) (p3 : Int32) : Array Slot := #[.val (.int p0), .val (.int p1), .val (.int p2), .val (.int p3), .unset, .unset, .unset, .unset, .unset, .unset, .unset, .unset, .unset, .unset, .unset, .unset, .unset, .unset, .unset, .unset, .unset, .unset, .unset, .unset, .unset]
abbrev Sh2 (p0 : Int32) (p1 : Int32) (p2 : Int32) (p3 : Int32) (p4 : Int32) : Array Slot := #[.val (.int p0), .val (.int p1), .val (.int p2), .val (.int p3), .val (.int p4), .unset, .unset, .unset, .unset, .unset, .unset, .unset, .unset, .unset, .unset, .unset, .unset, .unset, .unset, .unset, .unset, .unset, .unset, .unset, .unset]
abbrev Sh3 (p0 : Int32) (p1 : Int32) (p2 : Int32) (p3 : Int32) (p4 : Int32) (p5 : Int32) : Array Slot := #[.val (.int p0), .val (.int p1), .val (.int p2), .val (.int p3), .val (.int p4), .val (.int p5), .unset, .unset, .unset, .unset, .unset, .unset, .unset, .unset, .unset, .unset, .unset, .unset, .unset, .unset, .unset, .unset, .unset, .unset, .unset]
abbrev Sh4 (p0 : Int32) (p1 : Int32) (p2 : Int32) (p3 : Int32) (p4 : Int32) (p5 : Int32) (p6 : UInt64) : Array Slot := #[.val (.int p0), .val (.int p1), .val (.int p2), .val (.int p3), .val (.int p4), .val (.int p5), .val (.double p6), .second, .unset, .unset, .unset, .unset, .unset, .unset, .unset, .unset, .unset, .unset, .unset, .unset, .unset, .unset, .unset, .unset, .unset]
abbrev Sh5 (p0 : Int32) (p1 : Int32) (p2 : Int32) (p3 : Int32) (p4 : Int32) (p5 : Int32) (p6 : UInt64) (p7 : UInt64) : Array Slot := #[.val (.int p0), .val (.int p1), .val (.int p2), .val (.int p3), .val (.int p4), .val (.int p5), .val (.double p6), .second, .val (.double p7), .second, .unset, .unset, .unset, .unset, .unset, .unset, .unset, .unset, .unset, .unset, .unset, .unset, .unset, .unset, .unset]
abbrev Sh6 (p0 : Int32) (p1 : Int32) (p2 : Int32) (p3 : Int32) (p4 : Int32) (p5 : Int32) (p6 : UInt64) (p7 : UInt64) (p8 : UInt64) : Array Slot := #[.val (.int p0), .val (.int p1), .val (.int p2), .val (.int p3), .val (.int p4), .val (.int p5), .val (.double p6), .second, .val (.double p7), .second, .val (.double p8), .second, .unset, .unset, .unset, .unset, .unset, .unset, .unset, .unset, .unset, .unset, .unset, .unset, .unset]
abbrev Sh7 (p0 : Int32) (p1 : Int32) (p2 : Int32) (p3 : Int32) (p4 : Int32) (p5 : Int32) (p6 : UInt64) (p7 : UInt64) (p8 : UInt64) (p9 : UInt64) : Array Slot := #[.val (.int p0), .val (.int p1), .val (.int p2), .val (.int p3), .val (.int p4), .val (.int p5), .val (.double p6), .second, .val (.double p7), .second, .val (.double p8), .second, .val (.double p9), .second, .unset, .unset, .unset, .unset, .unset, .unset, .unset, .unset, .unset, .unset, .unset]
theorem pd_28DDDD29V : parseMethodDescriptor "(DDDD)V" = some ⟨[.double, .double, .double, .double], none⟩ := by decide +kernel
abbrev Sh8 (p0 : Int32) (p1 : Int32) (p2 : Int32) (p3 : Int32) (p4 : Int32) (p5 : Int32) (p6 : UInt64) (p7 : UInt64) (p8 : UInt64) (p9 : UInt64) (p10 : Addr) : Array Slot := #[.val (.int p0), .val (.int p1), .val (.int p2), .val (.int p3), .val (.int p4), .val (.int p5), .val (.double p6), .second, .val (.double p7), .second, .val (.double p8), .second, .val (.double p9), .second, .val (.ref p10), .unset, .unset, .unset, .unset, .unset, .unset, .unset, .unset, .unset, .unset]
theorem pd_2829D : parseMethodDescriptor "()D" = some ⟨[], some .double⟩ := by decide +kernel
abbrev Sh9 (p0 : Int32) (p1 : Int32) (p2 : Int32) (p3 : Int32) (p4 : Int32) (p5 : Int32) (p6 : UInt64) (p7 : UInt64) (p8 : UInt64) (p9 : UInt64) (p10 : Addr) (p11 : UInt64) : Array Slot := #[.val (.int p0), .val (.int p1), .val (.int p2), .val (.int p3), .val (.int p4), .val (.int p5), .val (.double p6), .second, .val (.double p7), .second, .val (.double p8), .second, .val (.double p9), .second, .val (.ref p10), .val (.double p11), .second, .unset, .unset, .unset, .unset, .unset, .unset, .unset, .unset]
abbrev Sh10 (p0 : Int32) (p1 : Int32) (p2 : Int32) (p3 : Int32) (p4 : Int32) (p5 : Int32) (p6 : UInt64) (p7 : UInt64) (p8 : UInt64) (p9 : UInt64) (p10 : Addr) (p11 : UInt64) (p12 : UInt64) : Array Slot := #[.val (.int p0), .val (.int p1), .val (.int p2), .val (.int p3), .val (.int p4), .val (.int p5), .val (.double p6), .second, .val (.double p7), .second, .val (.double p8), .second, .val (.double p9), .second, .val (.ref p10), .val (.double p11), .second, .val (.double p12), .second, .unset, .unset, .unset, .unset, .unset, .unset]
abbrev Sh11 (p0 : Int32) (p1 : Int32) (p2 : Int32) (p3 : Int32) (p4 : Int32) (p5 : Int32) (p6 : UInt64) (p7 : UInt64) (p8 : UInt64) (p9 : UInt64) (p10 : Addr) (p11 : UInt64) (p12 : UInt64) (p13 : Int32) : Array Slot := #[.val (.int p0), .val (.int p1), .val (.int p2), .val (.int p3), .val (.int p4), .val (.int p5), .val (.double p6), .second, .val (.double p7), .second, .val (.double p8), .second, .val (.double p9), .second, .val (.ref p10), .val (.double p11), .second, .val (.double p12), .second, .val (.int p13), .unset, .unset, .unset, .unset, .unset]
abbrev Sh12 (p0 : Int32) (p1 : Int32) (p2 : Int32) (p3 : Int32) (p4 : Int32) (p5 : Int32) (p6 : UInt64) (p7 : UInt64) (p8 : UInt64) (p9 : UInt64) (p10 : Addr) (p11 : UInt64) (p12 : UInt64) (p13 : Int32) (p14 : UInt64) : Array Slot := #[.val (.int p0), .val (.int p1), .val (.int p2), .val (.int p3), .val (.int p4), .val (.int p5), .val (.double p6), .second, .val (.double p7), .second, .val (.double p8), .second, .val (.double p9), .second, .val (.ref p10), .val (.double p11), .second, .val (.double p12), .second, .val (.int p13), .val (.double p14), .second, .unset, .unset, .unset]
abbrev Sh13 (p0 : Int32) (p1 : Int32) (p2 : Int32) (p3 : Int32) (p4 : Int32) (p5 : Int32) (p6 : UInt64) (p7 : UInt64) (p8 : UInt64) (p9 : UInt64) (p10 : Addr) (p11 : UInt64) (p12 : UInt64) (p13 : Int32) (p14 : UInt64) (p15 : UInt64) : Array Slot := #[.val (.int p0), .val (.int p1), .val (.int p2), .val (.int p3), .val (.int p4), .val (.int p5), .val (.double p6), .second, .val (.double p7), .second, .val (.double p8), .second, .val (.double p9), .second, .val (.ref p10), .val (.double p11), .second, .val (.double p12), .second, .val (.int p13), .val (.double p14), .second, .val (.double p15), .second, .unset]
abbrev Sh14 (p0 : Int32) (p1 : Int32) (p2 : Int32) (p3 : Int32) (p4 : Int32) (p5 : Int32) (p6 : UInt64) (p7 : UInt64) (p8 : UInt64) (p9 : UInt64) (p10 : Addr) (p11 : UInt64) (p12 : UInt64) (p13 : Int32) (p14 : UInt64) (p15 : UInt64) (p16 : Int32) : Array Slot := #[.val (.int p0), .val (.int p1), .val (.int p2), .val (.int p3), .val (.int p4), .val (.int p5), .val (.double p6), .second, .val (.double p7), .second, .val (.double p8), .second, .val (.double p9), .second, .val (.ref p10), .val (.double p11), .second, .val (.double p12), .second, .val (.int p13), .val (.double p14), .second, .val (.double p15), .second, .val (.int p16)]
def Zv (k : Int) (a : UInt64) : Prop := ∃ s c q, FP.Core.val64 a = .fin s c q ∧ FP.Core.signed s (c * 2 ^ (q + 1074).toNat) = k
theorem own_qmin : FP.Core.b64.qmin = -1074 := by decide +kernel
theorem own_qmax : FP.Core.b64.qmax = 971 := by decide +kernel
theorem own_tails : FP.Core.b64.tails = 2 ^ 52 := rfl
theorem own_p : FP.Core.b64.p = 53 := rfl
theorem own_zfit (s : Bool) {m t : Nat} (hm : m < 2 ^ 53) (h1 : 53 ≤ t) (h2 : t ≤ 2000) : ∃ c q, FP.Core.fits FP.Core.b64 (.fin s c q) ∧ -1074 ≤ q ∧ c * 2 ^ (q + 1074).toNat = m * 2 ^ t := by
  by_cases h0 : m = 0
  · subst h0
    refine ⟨0, -1074, ⟨by rw [own_p]; decide, by rw [own_qmin]; omega, by rw [own_qmax]; omega, Or.inl own_qmin.symm⟩, by omega, by simp⟩
  · have l1 : 2 ^ m.log2 ≤ m := Nat.log2_self_le h0
    have l2 : m < 2 ^ (m.log2 + 1) := Nat.lt_log2_self
    have l3 : m.log2 < 53 := (Nat.pow_lt_pow_iff_right (by decide : 1 < 2)).mp (Nat.lt_of_le_of_lt l1 hm)
    generalize m.log2 = L at l1 l2 l3
    refine ⟨m * 2 ^ (52 - L), (t : Int) - 1074 - ((52 - L : Nat) : Int), ⟨?_, by rw [own_qmin]; omega, by rw [own_qmax]; omega, Or.inr ?_⟩, by omega, ?_⟩
    · rw [own_p]
      calc m * 2 ^ (52 - L) < 2 ^ (L + 1) * 2 ^ (52 - L) := Nat.mul_lt_mul_of_pos_right l2 (Nat.two_pow_pos _)
        _ = 2 ^ 53 := by rw [← Nat.pow_add]; congr 1; omega
    · rw [own_tails]
      calc 2 ^ 52 = 2 ^ L * 2 ^ (52 - L) := by rw [← Nat.pow_add]; congr 1; omega
        _ ≤ m * 2 ^ (52 - L) := Nat.mul_le_mul_right _ l1
    · rw [show ((t : Int) - 1074 - ((52 - L : Nat) : Int) + 1074).toNat = t - (52 - L) by omega, Nat.mul_assoc, ← Nat.pow_add]
      congr 2; omega
theorem own_zround (s : Bool) {A B m t : Nat} {e : Int} (hB : 0 < B) (he : -2200 ≤ e) (hm : m < 2 ^ 53) (h1 : 53 ≤ t) (h2 : t ≤ 2000) (h : A * 2 ^ (e + 2200).toNat = m * 2 ^ t * 2 ^ 1126 * B) :
    ∃ c q, FP.Core.roundRatio FP.Core.b64 s A B e = .fin s c q ∧ c * 2 ^ (q + 1074).toNat = m * 2 ^ t := by
  obtain ⟨c, q, hf, hq, hv⟩ := own_zfit s hm h1 h2
  refine ⟨c, q, FP.Core.roundRatio_exact FP.Core.good_b64 hB hf ?_, hv⟩
  rw [← hv] at h
  have hk : A * 2 ^ (e + 2200).toNat = c * B * 2 ^ (q + 2200).toNat := by
    rw [h, show (q + 2200).toNat = (q + 1074).toNat + 1126 by omega, Nat.pow_add]
    generalize 2 ^ 1126 = x
    generalize 2 ^ (q + 1074).toNat = y
    ac_rfl
  by_cases hc : q ≤ e
  · rw [show (q - e).toNat = 0 by omega, Nat.pow_zero, Nat.mul_one]
    refine Nat.eq_of_mul_eq_mul_right (Nat.two_pow_pos (q + 2200).toNat) ?_
    rw [← hk, Nat.mul_assoc, ← Nat.pow_add]
    congr 2; omega
  · rw [show (e - q).toNat = 0 by omega, Nat.pow_zero, Nat.mul_one]
    refine Nat.eq_of_mul_eq_mul_right (Nat.two_pow_pos (e + 2200).toNat) ?_
    rw [hk, Nat.mul_assoc (c * B), ← Nat.pow_add]
    congr 2; omega
theorem own_sgn {s : Bool} {k : Int} {X : Nat} (h : X = k.natAbs) (hs : k ≠ 0 → s = decide (k < 0)) : FP.Core.signed s X = k := by
  unfold FP.Core.signed
  by_cases h0 : k = 0
  · subst h0; subst h; cases s <;> simp
  · rw [hs h0]
    by_cases h1 : k < 0
    · rw [if_pos (by simpa using h1)]; omega
    · rw [if_neg (by simpa using h1)]; omega
theorem own_sgn' {s : Bool} {X : Nat} {k : Int} (h : FP.Core.signed s X = k) : X = k.natAbs ∧ (k ≠ 0 → s = decide (k < 0)) := by
  subst h
  unfold FP.Core.signed
  cases s <;> simp <;> omega
def Dy (i : Int) (t : Nat) (a : UInt64) : Prop := Zv (i * ((2 ^ t : Nat) : Int)) a
theorem own_mulneg {i : Int} {k : Nat} (hk : 0 < k) : (i * (k : Int) ≠ 0 ↔ i ≠ 0) ∧ (i * (k : Int) < 0 ↔ i < 0) := by
  have hk' : (0 : Int) < (k : Int) := by omega
  refine ⟨⟨fun h q => h (by rw [q, Int.zero_mul]), fun h q => ?_⟩, ⟨fun h => ?_, fun h => Int.mul_neg_of_neg_of_pos h hk'⟩⟩
  · rcases Int.mul_eq_zero.mp q with q | q
    · exact h q
    · omega
  · refine Int.lt_of_not_ge fun q => ?_
    have := Int.mul_nonneg q (Int.le_of_lt hk')
    omega
theorem own_dyI {i : Int} {t : Nat} {a : UInt64} (h : Dy i t a) : ∃ s c q, FP.Core.val64 a = .fin s c q ∧ -1074 ≤ q ∧ c * 2 ^ (q + 1074).toNat = i.natAbs * 2 ^ t ∧ (i ≠ 0 → s = decide (i < 0)) := by
  obtain ⟨s, c, q, hv, h⟩ := h
  have hf := FP.Core.val64_fits a
  rw [hv] at hf
  have hq : -1074 ≤ q := by have := hf.2.1; rw [own_qmin] at this; exact this
  obtain ⟨q1, q2⟩ := own_sgn' h
  have hm := own_mulneg (i := i) (Nat.two_pow_pos t)
  refine ⟨s, c, q, hv, hq, by rw [q1, Int.natAbs_mul, Int.natAbs_natCast], fun hi => ?_⟩
  rw [q2 (hm.1.mpr hi), decide_eq_decide]; exact hm.2
theorem own_dyM {i : Int} {t : Nat} {a : UInt64} {s : Bool} {c : Nat} {q : Int} (hv : FP.Core.val64 a = .fin s c q) (h : c * 2 ^ (q + 1074).toNat = i.natAbs * 2 ^ t) (hs : i ≠ 0 → s = decide (i < 0)) : Dy i t a := by
  have hm := own_mulneg (i := i) (Nat.two_pow_pos t)
  refine ⟨s, c, q, hv, own_sgn ?_ fun hi => ?_⟩
  · rw [h, Int.natAbs_mul, Int.natAbs_natCast]
  · rw [hs (hm.1.mp hi), decide_eq_decide]; exact hm.2.symm
theorem own_dyDiv {i : Int} {t j : Nat} {a b : UInt64} {r : Int} (ha : Dy i (t + j) a) (hb : FP.Core.val64 b = .fin false (2 ^ 52) r) (hr : r + 52 = j) (hr2 : r ≤ 0) (hi : i.natAbs < 2 ^ 53) (h1 : 53 ≤ t) (h2 : t ≤ 2000) : Dy i t (FP.ddiv a b) := by
  obtain ⟨s, c, q, hv, hq, hc, hs⟩ := own_dyI ha
  obtain ⟨c', q', hr', hv'⟩ := own_zround s (A := c) (B := 2 ^ 52) (e := q - r) (m := i.natAbs) (t := t) (Nat.two_pow_pos _) (by omega) hi h1 h2 (by
    rw [show (q - r + 2200).toNat = (q + 1074).toNat + (52 - j + 1126) by omega, Nat.pow_add, ← Nat.mul_assoc, hc, Nat.pow_add, Nat.pow_add]
    rw [show (2 : Nat) ^ 52 = 2 ^ (52 - j) * 2 ^ j by rw [← Nat.pow_add]; congr 1; omega]
    generalize 2 ^ 1126 = x
    ac_rfl)
  refine own_dyM (s := s) (c := c') (q := q') ?_ hv' hs
  show FP.Core.val64 (FP.Core.ddiv a b) = _
  rw [FP.Core.val64_ddiv, hv, hb]
  show (if 2 ^ 52 = 0 then (if c = 0 then FP.Core.Datum.nan else .inf (s != false)) else FP.Core.roundRatio FP.Core.b64 (s != false) c (2 ^ 52) (q - r)) = _
  rw [if_neg (by decide), show (s != false) = s by cases s <;> rfl, hr']
theorem own_dyMul {i : Int} {t j : Nat} {a b : UInt64} {r : Int} (ha : Dy i t a) (hb : FP.Core.val64 b = .fin false (2 ^ 52) r) (hr : r + 52 = j) (hr2 : -52 ≤ r) (hi : i.natAbs < 2 ^ 53) (h1 : 53 ≤ t + j) (h2 : t + j ≤ 2000) : Dy i (t + j) (FP.dmul a b) := by
  obtain ⟨s, c, q, hv, hq, hc, hs⟩ := own_dyI ha
  obtain ⟨c', q', hr', hv'⟩ := own_zround s (A := c * 2 ^ 52) (B := 1) (e := q + r) (m := i.natAbs) (t := t + j) (by decide) (by omega) hi h1 h2 (by
    have e1 : 2 ^ 52 * 2 ^ (q + r + 2200).toNat = 2 ^ (q + 1074).toNat * 2 ^ (j + 1126) := by rw [← Nat.pow_add, ← Nat.pow_add]; congr 1; omega
    rw [Nat.mul_assoc, e1, ← Nat.mul_assoc, hc, Nat.pow_add, Nat.pow_add, Nat.mul_one]
    generalize 2 ^ 1126 = x
    ac_rfl)
  refine own_dyM (s := s) (c := c') (q := q') ?_ hv' hs
  show FP.Core.val64 (FP.Core.dmul a b) = _
  rw [FP.Core.val64_dmul, hv, hb]
  show FP.Core.roundRatio FP.Core.b64 (s != false) (c * 2 ^ 52) 1 (q + r) = _
  rw [show (s != false) = s by cases s <;> rfl, hr']
theorem own_units {s : Bool} {c : Nat} {q e : Int} (h : e ≤ q) (he : -1074 ≤ e) : FP.Core.signed s (FP.Core.inUnits c q e) * ((2 ^ (e + 1074).toNat : Nat) : Int) = FP.Core.signed s (c * 2 ^ (q + 1074).toNat) := by
  rw [← FP.Core.signed_mul]
  unfold FP.Core.inUnits
  rw [Nat.mul_assoc, ← Nat.pow_add]
  congr 3; omega
theorem own_dyAdd {i j : Int} {t : Nat} {a b : UInt64} (ha : Dy i t a) (hb : Dy j t b) (hi : (i + j).natAbs < 2 ^ 53) (h1 : 53 ≤ t) (h2 : t ≤ 2000) : Dy (i + j) t (FP.dadd a b) := by
  obtain ⟨s, c, q, hv, hq, -, -⟩ := own_dyI ha
  obtain ⟨s', d, r, hv2, hr, -, -⟩ := own_dyI hb
  obtain ⟨_, _, _, k1, k2⟩ := ha
  rw [hv] at k1; cases k1
  obtain ⟨_, _, _, k1, k3⟩ := hb
  rw [hv2] at k1; cases k1
  have he : -1074 ≤ min q r := by omega
  have hsum : FP.Core.sumUnits s c q s' d r (min q r) * ((2 ^ (min q r + 1074).toNat : Nat) : Int) = (i + j) * ((2 ^ t : Nat) : Int) := by
    unfold FP.Core.sumUnits
    rw [Int.add_mul, own_units (by omega) he, own_units (by omega) he, k2, k3, Int.add_mul]
  have hsg : i + j ≠ 0 → FP.Core.sumSign s s' (FP.Core.sumUnits s c q s' d r (min q r)) = decide (i + j < 0) := by
    intro hne
    have m1 := own_mulneg (i := FP.Core.sumUnits s c q s' d r (min q r)) (Nat.two_pow_pos (min q r + 1074).toNat)
    have m2 := own_mulneg (i := i + j) (Nat.two_pow_pos t)
    rw [hsum] at m1
    unfold FP.Core.sumSign
    rw [if_neg (m1.1.mp (m2.1.mpr hne)), decide_eq_decide, ← m1.2, m2.2]
  generalize hS : FP.Core.sumUnits s c q s' d r (min q r) = S at *
  generalize hG : FP.Core.sumSign s s' S = G at *
  have hab : S.natAbs * 2 ^ (min q r + 1074).toNat = (i + j).natAbs * 2 ^ t := by
    have := congrArg Int.natAbs hsum
    rw [Int.natAbs_mul, Int.natAbs_mul, Int.natAbs_natCast, Int.natAbs_natCast] at this
    exact this
  obtain ⟨c', q', hr', hv'⟩ := own_zround G (A := S.natAbs) (B := 1) (e := min q r) (m := (i + j).natAbs) (t := t) (by decide) (by omega) hi h1 h2 (by
    rw [show (min q r + 2200).toNat = (min q r + 1074).toNat + 1126 by omega, Nat.pow_add, ← Nat.mul_assoc, hab, Nat.mul_one])
  refine own_dyM (s := G) (c := c') (q := q') ?_ hv' hsg
  show FP.Core.val64 (FP.Core.dadd a b) = _
  rw [FP.Core.val64_dadd, hv, hv2]
  show FP.Core.roundRatio FP.Core.b64 (FP.Core.sumSign s s' (FP.Core.sumUnits s c q s' d r (min q r))) (FP.Core.sumUnits s c q s' d r (min q r)).natAbs 1 (min q r) = _
  rw [hS, hG, hr']
theorem own_dyZ {i : Int} {t : Nat} {a : UInt64} (h : Dy i t a) : FP.Core.val64 a ≠ .nan ∧ FP.Core.zval FP.Core.b64 (FP.Core.val64 a) = i * ((2 ^ t : Nat) : Int) := by
  obtain ⟨s, c, q, hv, h⟩ := h
  rw [hv]
  refine ⟨FP.Core.Datum.noConfusion, ?_⟩
  rw [← h]
  show FP.Core.signed s (c * 2 ^ (q - FP.Core.b64.qmin).toNat) = _
  rw [own_qmin, show q - -1074 = q + 1074 by omega]
theorem own_dyCmp {i j : Int} {t : Nat} {a b : UInt64} (ha : Dy i t a) (hb : Dy j t b) : FP.dcmp a b = some (compare i j) := by
  obtain ⟨a1, a2⟩ := own_dyZ ha
  obtain ⟨b1, b2⟩ := own_dyZ hb
  show FP.Core.dcmp a b = _
  rw [FP.Core.dcmp_zval a1 b1, a2, b2]
  have hp : (0 : Int) < ((2 ^ t : Nat) : Int) := by have := Nat.two_pow_pos t; omega
  generalize ((2 ^ t : Nat) : Int) = k at *
  congr 1
  rcases Int.lt_trichotomy i j with h | h | h
  · rw [Int.compare_eq_lt.mpr h, Int.compare_eq_lt.mpr (Int.mul_lt_mul_of_pos_right h hp)]
  · subst h; simp
  · rw [Int.compare_eq_gt.mpr h, Int.compare_eq_gt.mpr (Int.mul_lt_mul_of_pos_right h hp)]
theorem own_dyDown {i : Int} {t : Nat} {a : UInt64} (h : Dy i (t + 1) a) : Dy (2 * i) t a := by
  unfold Dy at h ⊢
  rw [Nat.pow_succ, Int.natCast_mul] at h
  have e : i * (((2 ^ t : Nat) : Int) * ((2 : Nat) : Int)) = 2 * i * ((2 ^ t : Nat) : Int) := by
    generalize ((2 ^ t : Nat) : Int) = k
    rw [Int.mul_comm k, ← Int.mul_assoc, Int.mul_comm i]; rfl
  rw [e] at h; exact h
theorem own_dyL {x : Int64} (h : B53 x) : Dy x.toInt 1074 (FP.l2d x) := by
  obtain ⟨s, c, q, hv⟩ := FP.Core.l2d_fin x
  refine ⟨s, c, q, hv, ?_⟩
  have hz := FP.Core.DInt_zval (FP.Core.l2d_int (a := x) (by unfold B53 at h; omega))
  rw [hv] at hz
  have hz' : FP.Core.signed s (c * 2 ^ (q - FP.Core.b64.qmin).toNat) = x.toInt * (FP.Core.one64 : Int) := hz
  rw [own_qmin] at hz'
  rw [show (q + 1074).toNat = (q - -1074).toNat by omega, hz']; rfl
theorem own_dyN {i : Int} {t : Nat} {a : UInt64} (h : Dy i t a) : Jvm.Free.Fl.NoNaN64 a := by
  obtain ⟨s, c, q, hv, h⟩ := h
  exact Jvm.Free.Fl.noNaN64_no.mpr (FP.Core.DFin.notNaN ⟨s, c, q, hv⟩)
theorem own_dyLe {i j : Int} {t : Nat} {a b : UInt64} (ha : Dy i t a) (hb : Dy j t b) (h : i ≤ j) (o : CmpOp) : ¬ ((0 : Int32) < cmpValue (FP.dcmp a b) o) := by
  rw [own_dyCmp ha hb]
  rcases Int.lt_or_eq_of_le h with h | h
  · rw [Int.compare_eq_lt.mpr h]; show ¬ ((0 : Int32) < (-1 : Int32)); decide
  · subst h; rw [Int.compare_eq_eq.mpr rfl]; show ¬ ((0 : Int32) < (0 : Int32)); decide
theorem own_dyEq {i : Int} {t : Nat} {a b : UInt64} (ha : Dy i t a) (hb : Dy i t b) (o : CmpOp) : cmpValue (FP.dcmp a b) o = 0 := by
  rw [own_dyCmp ha hb, Int.compare_eq_eq.mpr rfl]; rfl
theorem own_ab (q : Int32) : -92160 ≤ (((q &&& (2147483647 : Int32)) % (184321 : Int32)) - (92160 : Int32)).toInt ∧ (((q &&& (2147483647 : Int32)) % (184321 : Int32)) - (92160 : Int32)).toInt ≤ 92160 := by
  have h1 := c_and q 2147483647 (by decide)
  generalize q &&& (2147483647 : Int32) = u at *
  have h2 := (c_irem u 184321 184321 rfl).1 h1.1
  have h3 := c_isub (u % 184321) 92160
  have e : (92160 : Int32).toInt = 92160 := by decide
  have r := rng32 (u % 184321 - 92160)
  rw [e] at h3
  omega
theorem own_dyI32 (x : Int32) : Dy x.toInt 1074 (FP.l2d x.toInt64) := by
  have h := own_dyL (own_b53 x)
  rw [Int32.toInt_toInt64] at h; exact h
theorem own_S {x : Int32} (h : -92160 ≤ x.toInt ∧ x.toInt ≤ 92160) : Dy x.toInt 1064 (FP.ddiv (FP.l2d x.toInt64) (4652218415073722368 : UInt64)) :=
  own_dyDiv (t := 1064) (j := 10) (r := -42) (own_dyI32 x) (by decide +kernel) (by decide) (by decide) (by omega) (by decide) (by decide)
theorem own_M {i j : Int} {a b : UInt64} (ha : Dy i 1064 a) (hb : Dy j 1064 b) (h1 : -92160 ≤ i ∧ i ≤ 92160) (h2 : -92160 ≤ j ∧ j ≤ 92160) : Dy (i + j) 1064 (FP.dadd a b) ∧ Dy (i + j) 1063 (FP.ddiv (FP.dadd a b) (4611686018427387904 : UInt64)) := by
  have hs := own_dyAdd ha hb (by omega) (by decide) (by decide)
  exact ⟨hs, own_dyDiv (t := 1063) (j := 1) (r := -51) hs (by decide +kernel) (by decide) (by decide) (by omega) (by decide) (by decide)⟩
theorem own_P {i : Int} {a : UInt64} (ha : Dy i 1063 a) (h1 : -200000 ≤ i ∧ i ≤ 200000) : Dy i 1074 (FP.dmul a (4656722014701092864 : UInt64)) :=
  own_dyMul (t := 1063) (j := 11) (r := -41) ha (by decide +kernel) (by decide) (by decide) (by omega) (by decide) (by decide)
theorem own_T {x y : Int32} (h1 : -92160 ≤ x.toInt ∧ x.toInt ≤ 92160) (h2 : -92160 ≤ y.toInt ∧ y.toInt ≤ 92160) : Dy (x.toInt + y.toInt) 1074 (FP.l2d (x + y).toInt64) := by
  have h := own_dyI32 (x + y)
  have e := c_iadd x y
  have r := rng32 (x + y)
  rw [show (x + y).toInt = x.toInt + y.toInt by omega] at h; exact h
def Q2_1 (Z : State) (a1c : Addr) (h0 : Heap) (n0 : Nat) (v : Option Value) (h : Heap) (L : List Loc) : Prop := v = none ∧ Fr n0 L ∧ (h = h0)
theorem ef2_rm2_1 (m : MethodId) (a1c : Addr) : entryFrame m #[(.ref a1c)] 1 = (mkF m 0 #[.val (.ref a1c)] []) := by first | (simp [entryFrame, mkF, argsToLocals, Value.category, maxLocals]; done) | rfl
set_option maxRecDepth 65536 in
set_option maxHeartbeats 40000000 in
theorem rm2_1 (l : Launch) (Z : State) (a0 : Array Value) (hw : ∀ d ∈ tables_1, d.before a0 Z = true) (ws : List Jvm.Cond) (a1c : Addr)  (h0 : Heap) (n0 : Nat)       :
    MetFree l Y2 (head1 (Jvm.Cond.code Y2 jdk_30_method_1_code 1 none :: ws) ({ frames := 1, cells := 0, slots := 0, locals := 12 } : Room)) (fun a U => a = #[(.ref a1c)] ∧ Z.Warmed39 U.vm ∧ U.heap = h0) (fun _ _ _ _ _ => True) (fun _ U o U' => ∃ v L, o = .returned v ∧ (Q2_1 Z a1c h0 n0) v U'.heap L ∧ FrameEnd U o U' L 0 0) := by
 refine MetFree.of_bodySF (plainFor_of_name pn_java_lang_Record) hisR ?_
 intro p e s m args below meth c s₁ Bd hml0 hP hK
 obtain ⟨rfl, hZ, hh⟩ := hP
 have hx := Bd.exec
 have hby := Bd.bytes
 have hml : c.maxLocals = 1 := hml0
 have hown : s.vm.findClass "java/lang/Record" = some m.cls := findClass_of_methodNamed Bd.named
 have hnm := (name_of_methodNamed Bd.named Bd.method).1
 have X0 : Stand p l e ({ frames := 1, cells := 0, slots := 0, locals := 12 } : Room) s m #[(.ref a1c)] below meth c s₁ [] 0 0 := Stand.of_body Bd
 have e0 : s₁.heap = h0 := by rw [← hh, Bd.state]; rfl
 have N0 := Fr.nil n0
 refine GoW.mk ?_
 refine GoW.st (fun t k => castTop (ef2_rm2_1 m a1c) k) ?_
 show GoW p e below s (Q2_1 Z a1c h0 n0) 0 0 (s₁.setTop (mkF m 0 #[.val (.ref a1c)] []))
 refine GoW.sg (mkF m 1 #[.val (.ref a1c)] [(.ref a1c)]) (fun t k => XS.aloadN X0.here hx rfl (hb hby d2_0) rfl rfl k) ?_
 obtain ⟨T2, X2, e2, st2⟩ := initO X0 hx hZ hown (ww hw 15 rfl) (ww hw 16 rfl) (ww hw 17 rfl) e0 (g := (mkF m 1 #[.val (.ref a1c)] [(.ref a1c)])) rfl (by rw [hml]; rfl) rfl (hb hby d2_1) (by decide) (W := 0) (by show 2 * 0 + _ ≤ _; exact Nat.le_of_eq rfl) (by decide)
 refine GoW.sg (mkF m 4 #[.val (.ref a1c)] []) (fun t k => st2 t k) ?_
 refine GoW.retV X2 hx Bd.returns (hb hby d2_4) Bd.notSynchronized ?_ (by decide) (by decide)
 rw [e2]
 exact ⟨rfl, N0, rfl⟩
def QI (Z : State) (a1 : Addr) (x0 : UInt64) (x1 : UInt64) (x2 : UInt64) (x3 : UInt64) (h0 : Heap) (n0 : Nat) (v : Option Value) (h : Heap) (L : List Loc) : Prop := v = none ∧ Fr n0 L ∧ (Keep h0 h [a1]) ∧ (Exa Z h a1 "com/example/saunter/saunter/geo/Bounds") ∧ (Fld Z h a1 "com/example/saunter/saunter/geo/Bounds" "south" "D" (.double x0)) ∧ (Fld Z h a1 "com/example/saunter/saunter/geo/Bounds" "west" "D" (.double x1)) ∧ (Fld Z h a1 "com/example/saunter/saunter/geo/Bounds" "north" "D" (.double x2)) ∧ (Fld Z h a1 "com/example/saunter/saunter/geo/Bounds" "east" "D" (.double x3))
theorem ef1_rmI (m : MethodId) (a1 : Addr) (x0 : UInt64) (x1 : UInt64) (x2 : UInt64) (x3 : UInt64) : entryFrame m #[(.ref a1), (.double x0), (.double x1), (.double x2), (.double x3)] 9 = (mkF m 0 #[.val (.ref a1), .val (.double x0), .second, .val (.double x1), .second, .val (.double x2), .second, .val (.double x3), .second] []) := by first | (simp [entryFrame, mkF, argsToLocals, Value.category, maxLocals]; done) | rfl
set_option maxRecDepth 65536 in
set_option maxHeartbeats 40000000 in
theorem rmI (l : Launch) (Z : State) (a0 : Array Value) (hw : ∀ d ∈ tables_1, d.before a0 Z = true) (ws : List Jvm.Cond) (a1 : Addr) (x0 : UInt64) (x1 : UInt64) (x2 : UInt64) (x3 : UInt64)  (h0 : Heap) (n0 : Nat) (P0 : Exa Z h0 a1 "com/example/saunter/saunter/geo/Bounds") (P1 : Fld Z h0 a1 "com/example/saunter/saunter/geo/Bounds" "south" "D" (.double (0 : UInt64))) (P2 : Fld Z h0 a1 "com/example/saunter/saunter/geo/Bounds" "west" "D" (.double (0 : UInt64))) (P3 : Fld Z h0 a1 "com/example/saunter/saunter/geo/Bounds" "north" "D" (.double (0 : UInt64))) (P4 : Fld Z h0 a1 "com/example/saunter/saunter/geo/Bounds" "east" "D" (.double (0 : UInt64))) (g_a1 : n0 ≤ a1)     :
    MetFree l Y1 (head1 (Jvm.Cond.code Y1 prog_2_method_1_code 9 none :: ws) ({ frames := 2, cells := 0, slots := 0, locals := 24 } : Room)) (fun a U => a = #[(.ref a1), (.double x0), (.double x1), (.double x2), (.double x3)] ∧ Z.Warmed39 U.vm ∧ U.heap = h0) (fun _ _ _ _ _ => True) (fun _ U o U' => ∃ v L, o = .returned v ∧ (QI Z a1 x0 x1 x2 x3 h0 n0) v U'.heap L ∧ FrameEnd U o U' L 0 0) := by
 refine MetFree.of_bodySF (plainFor_of_name pn_com_example_saunter_saunter_geo_Bounds) hisR ?_
 intro p e s m args below meth c s₁ Bd hml0 hP hK
 obtain ⟨rfl, hZ, hh⟩ := hP
 have hx := Bd.exec
 have hby := Bd.bytes
 have hml : c.maxLocals = 9 := hml0
 have hown : s.vm.findClass "com/example/saunter/saunter/geo/Bounds" = some m.cls := findClass_of_methodNamed Bd.named
 have hnm := (name_of_methodNamed Bd.named Bd.method).1
 have X0 : Stand p l e ({ frames := 2, cells := 0, slots := 0, locals := 24 } : Room) s m #[(.ref a1), (.double x0), (.double x1), (.double x2), (.double x3)] below meth c s₁ [] 0 0 := Stand.of_body Bd
 have e0 : s₁.heap = h0 := by rw [← hh, Bd.state]; rfl
 have N0 := Fr.nil n0
 refine GoW.mk ?_
 refine GoW.st (fun t k => castTop (ef1_rmI m a1 x0 x1 x2 x3) k) ?_
 show GoW p e below s (QI Z a1 x0 x1 x2 x3 h0 n0) 0 0 (s₁.setTop (mkF m 0 (Sh0 a1 x0 x1 x2 x3) []))
 refine GoW.sg (mkF m 1 (Sh0 a1 x0 x1 x2 x3) [(.ref a1)]) (fun t k => XS.aloadN X0.here hx rfl (hb hby d1_0) rfl rfl k) ?_
 obtain ⟨_, _, ⟨T3, L3, k3, n3⟩, -, X3, ⟨Lc3, hQ3, l3, y3, z3⟩, st3⟩ := X0.specialBack hx (y := Y2) rfl hown (mvT hZ (ww hw 10 rfl)) (mvT hZ (ww hw 11 rfl)) (mvT hZ (ww hw 14 rfl)) (by decide) (backOf (W := 0) (rm2_1 l Z a0 hw [] a1  h0 n0       ) hZ (ww hw 14 rfl) (ww hw 13 rfl) (by decide) (by decide)) (g := (mkF m 1 (Sh0 a1 x0 x1 x2 x3) [(.ref a1)])) rfl (by rw [hml]; rfl) (Steps.refl _) (a := a1) (argsL := []) (rest := []) (lenOf pd_2829V rfl) rfl (by show 2 * 0 + _ ≤ _; exact Nat.le_of_eq rfl) (hb hby d1_1) (fun _ _ => ⟨rfl, e0, (by decide : 0 + 0 ≤ _), (by decide : 0 + 0 ≤ _)⟩)
 dsimp only [Pt.U, Pt.locs, Pt.cells, Pt.slots] at X3 l3 y3 z3 st3 hQ3
 subst l3 y3 z3
 obtain ⟨rfl, N3q, e3⟩ := hQ3
 have N3 := Fr.app N0 N3q
 refine GoW.sg (mkF m 4 (Sh0 a1 x0 x1 x2 x3) []) (fun t k => st3.trans k) ?_
 refine GoW.sg (mkF m 5 (Sh0 a1 x0 x1 x2 x3) [(.ref a1)]) (fun t k => XS.aloadN X3.here hx rfl (hb hby d1_4) rfl rfl k) ?_
 refine GoW.sg (mkF m 6 (Sh0 a1 x0 x1 x2 x3) [(.double x0), (.ref a1)]) (fun t k => XS.dloadN X3.here hx rfl (hb hby d1_5) rfl k) ?_
 obtain ⟨T4, h4, X4, e4, W4, st4⟩ := putF X3 hx hZ hown (host := "") (Or.inl (ww hw 18 rfl)) Via.refl e3 P1 P0 (Or.inr ⟨(ww hw 19 rfl), rfl, hnm⟩) (ww hw 5 rfl) (ty := .double) (by decide) rfl rfl (g := (mkF m 6 (Sh0 a1 x0 x1 x2 x3) [(.double x0), (.ref a1)])) rfl rfl (hb hby d1_6)
 have N4 := Fr.snoc X4 N3 g_a1
 have f4_1 := P0.wr W4
 have f4_2 := P2.other W4 (Or.inr (slot_ne (t := .double) (t' := .double) (Or.inr (ww hw 21 rfl)) (Or.inr (ww hw 19 rfl)) (by decide) (by decide) (by decide)))
 have f4_3 := P3.other W4 (Or.inr (slot_ne (t := .double) (t' := .double) (Or.inr (ww hw 23 rfl)) (Or.inr (ww hw 19 rfl)) (by decide) (by decide) (by decide)))
 have f4_4 := P4.other W4 (Or.inr (slot_ne (t := .double) (t' := .double) (Or.inr (ww hw 25 rfl)) (Or.inr (ww hw 19 rfl)) (by decide) (by decide) (by decide)))
 have f4_5 := (Keep.refl h0 [a1]).wr W4 (Or.inl (List.mem_of_getElem? (i := 0) rfl))
 have F4south : Fld Z h4 a1 "com/example/saunter/saunter/geo/Bounds" "south" "D" (.double x0) := P1.same W4
 refine GoW.sg (mkF m 9 (Sh0 a1 x0 x1 x2 x3) []) (fun t k => st4 t k) ?_
 refine GoW.sg (mkF m 10 (Sh0 a1 x0 x1 x2 x3) [(.ref a1)]) (fun t k => XS.aloadN X4.here hx rfl (hb hby d1_9) rfl rfl k) ?_
 refine GoW.sg (mkF m 11 (Sh0 a1 x0 x1 x2 x3) [(.double x1), (.ref a1)]) (fun t k => XS.dloadN X4.here hx rfl (hb hby d1_10) rfl k) ?_
 obtain ⟨T5, h5, X5, e5, W5, st5⟩ := putF X4 hx hZ hown (host := "") (Or.inl (ww hw 20 rfl)) Via.refl e4 f4_2 f4_1 (Or.inr ⟨(ww hw 21 rfl), rfl, hnm⟩) (ww hw 5 rfl) (ty := .double) (by decide) rfl rfl (g := (mkF m 11 (Sh0 a1 x0 x1 x2 x3) [(.double x1), (.ref a1)])) rfl rfl (hb hby d1_11)
 have N5 := Fr.snoc X5 N4 g_a1
 have f5_6 := f4_1.wr W5
 have f5_7 := F4south.other W5 (Or.inr (slot_ne (t := .double) (t' := .double) (Or.inr (ww hw 19 rfl)) (Or.inr (ww hw 21 rfl)) (by decide) (by decide) (by decide)))
 have f5_8 := f4_3.other W5 (Or.inr (slot_ne (t := .double) (t' := .double) (Or.inr (ww hw 23 rfl)) (Or.inr (ww hw 21 rfl)) (by decide) (by decide) (by decide)))
 have f5_9 := f4_4.other W5 (Or.inr (slot_ne (t := .double) (t' := .double) (Or.inr (ww hw 25 rfl)) (Or.inr (ww hw 21 rfl)) (by decide) (by decide) (by decide)))
 have f5_10 := f4_5.wr W5 (Or.inl (List.mem_of_getElem? (i := 0) rfl))
 have F5west : Fld Z h5 a1 "com/example/saunter/saunter/geo/Bounds" "west" "D" (.double x1) := f4_2.same W5
 refine GoW.sg (mkF m 14 (Sh0 a1 x0 x1 x2 x3) []) (fun t k => st5 t k) ?_
 refine GoW.sg (mkF m 15 (Sh0 a1 x0 x1 x2 x3) [(.ref a1)]) (fun t k => XS.aloadN X5.here hx rfl (hb hby d1_14) rfl rfl k) ?_
 refine GoW.sg (mkF m 17 (Sh0 a1 x0 x1 x2 x3) [(.double x2), (.ref a1)]) (fun t k => XS.dload X5.here hx rfl (hb hby d1_15) rfl k) ?_
 obtain ⟨T6, h6, X6, e6, W6, st6⟩ := putF X5 hx hZ hown (host := "") (Or.inl (ww hw 22 rfl)) Via.refl e5 f5_8 f5_6 (Or.inr ⟨(ww hw 23 rfl), rfl, hnm⟩) (ww hw 5 rfl) (ty := .double) (by decide) rfl rfl (g := (mkF m 17 (Sh0 a1 x0 x1 x2 x3) [(.double x2), (.ref a1)])) rfl rfl (hb hby d1_17)
 have N6 := Fr.snoc X6 N5 g_a1
 have f6_11 := f5_6.wr W6
 have f6_12 := f5_7.other W6 (Or.inr (slot_ne (t := .double) (t' := .double) (Or.inr (ww hw 19 rfl)) (Or.inr (ww hw 23 rfl)) (by decide) (by decide) (by decide)))
 have f6_13 := F5west.other W6 (Or.inr (slot_ne (t := .double) (t' := .double) (Or.inr (ww hw 21 rfl)) (Or.inr (ww hw 23 rfl)) (by decide) (by decide) (by decide)))
 have f6_14 := f5_9.other W6 (Or.inr (slot_ne (t := .double) (t' := .double) (Or.inr (ww hw 25 rfl)) (Or.inr (ww hw 23 rfl)) (by decide) (by decide) (by decide)))
 have f6_15 := f5_10.wr W6 (Or.inl (List.mem_of_getElem? (i := 0) rfl))
 have F6north : Fld Z h6 a1 "com/example/saunter/saunter/geo/Bounds" "north" "D" (.double x2) := f5_8.same W6
 refine GoW.sg (mkF m 20 (Sh0 a1 x0 x1 x2 x3) []) (fun t k => st6 t k) ?_
 refine GoW.sg (mkF m 21 (Sh0 a1 x0 x1 x2 x3) [(.ref a1)]) (fun t k => XS.aloadN X6.here hx rfl (hb hby d1_20) rfl rfl k) ?_
 refine GoW.sg (mkF m 23 (Sh0 a1 x0 x1 x2 x3) [(.double x3), (.ref a1)]) (fun t k => XS.dload X6.here hx rfl (hb hby d1_21) rfl k) ?_
 obtain ⟨T7, h7, X7, e7, W7, st7⟩ := putF X6 hx hZ hown (host := "") (Or.inl (ww hw 24 rfl)) Via.refl e6 f6_14 f6_11 (Or.inr ⟨(ww hw 25 rfl), rfl, hnm⟩) (ww hw 5 rfl) (ty := .double) (by decide) rfl rfl (g := (mkF m 23 (Sh0 a1 x0 x1 x2 x3) [(.double x3), (.ref a1)])) rfl rfl (hb hby d1_23)
 have N7 := Fr.snoc X7 N6 g_a1
 have f7_16 := f6_11.wr W7
 have f7_17 := f6_12.other W7 (Or.inr (slot_ne (t := .double) (t' := .double) (Or.inr (ww hw 19 rfl)) (Or.inr (ww hw 25 rfl)) (by decide) (by decide) (by decide)))
 have f7_18 := f6_13.other W7 (Or.inr (slot_ne (t := .double) (t' := .double) (Or.inr (ww hw 21 rfl)) (Or.inr (ww hw 25 rfl)) (by decide) (by decide) (by decide)))
 have f7_19 := F6north.other W7 (Or.inr (slot_ne (t := .double) (t' := .double) (Or.inr (ww hw 23 rfl)) (Or.inr (ww hw 25 rfl)) (by decide) (by decide) (by decide)))
 have f7_20 := f6_15.wr W7 (Or.inl (List.mem_of_getElem? (i := 0) rfl))
 have F7east : Fld Z h7 a1 "com/example/saunter/saunter/geo/Bounds" "east" "D" (.double x3) := f6_14.same W7
 refine GoW.sg (mkF m 26 (Sh0 a1 x0 x1 x2 x3) []) (fun t k => st7 t k) ?_
 refine GoW.retV X7 hx Bd.returns (hb hby d1_26) Bd.notSynchronized ?_ (by decide) (by decide)
 rw [e7]
 exact ⟨rfl, N7, f7_20, f7_16, f7_17, f7_18, f7_19, F7east⟩
def QM (Z : State) (a1 : Addr) (xs : UInt64) (xn : UInt64) (xt : UInt64) (xm : UInt64) (h0 : Heap) (n0 : Nat) (v : Option Value) (h : Heap) (L : List Loc) : Prop := v = some (.double xm) ∧ Fr n0 L ∧ (h = h0)
theorem ef4_rmM (m : MethodId) (a1 : Addr) : entryFrame m #[(.ref a1)] 1 = (mkF m 0 #[.val (.ref a1)] []) := by first | (simp [entryFrame, mkF, argsToLocals, Value.category, maxLocals]; done) | rfl
set_option maxRecDepth 65536 in
set_option maxHeartbeats 40000000 in
theorem rmM (l : Launch) (Z : State) (a0 : Array Value) (hw : ∀ d ∈ tables_1, d.before a0 Z = true) (ws : List Jvm.Cond) (a1 : Addr) (xs : UInt64) (xn : UInt64) (xt : UInt64) (xm : UInt64) (h0 : Heap) (n0 : Nat) (P0 : Exa Z h0 a1 "com/example/saunter/saunter/geo/Bounds") (P1 : Fld Z h0 a1 "com/example/saunter/saunter/geo/Bounds" "south" "D" (.double xs)) (P2 : Fld Z h0 a1 "com/example/saunter/saunter/geo/Bounds" "north" "D" (.double xn))    (n1 : Jvm.Free.Fl.NoNaN64 (FP.dadd xs xn)) (ht : FP.dadd xs xn = xt) (n2 : Jvm.Free.Fl.NoNaN64 (FP.ddiv xt (4611686018427387904 : UInt64))) (hm : FP.ddiv xt (4611686018427387904 : UInt64) = xm)  :
    MetFree l Y4 (head1 (Jvm.Cond.code Y4 prog_2_method_11_code 1 (some .double) :: ws) ({ frames := 0, cells := 0, slots := 0, locals := 0 } : Room)) (fun a U => a = #[(.ref a1)] ∧ Z.Warmed39 U.vm ∧ U.heap = h0) (fun _ _ _ _ _ => True) (fun _ U o U' => ∃ v L, o = .returned v ∧ (QM Z a1 xs xn xt xm h0 n0) v U'.heap L ∧ FrameEnd U o U' L 0 0) := by
 refine MetFree.of_bodySF (plainFor_of_name pn_com_example_saunter_saunter_geo_Bounds) hisR ?_
 intro p e s m args below meth c s₁ Bd hml0 hP hK
 obtain ⟨rfl, hZ, hh⟩ := hP
 have hx := Bd.exec
 have hby := Bd.bytes
 have hml : c.maxLocals = 1 := hml0
 have hown : s.vm.findClass "com/example/saunter/saunter/geo/Bounds" = some m.cls := findClass_of_methodNamed Bd.named
 have hnm := (name_of_methodNamed Bd.named Bd.method).1
 have X0 : Stand p l e ({ frames := 0, cells := 0, slots := 0, locals := 0 } : Room) s m #[(.ref a1)] below meth c s₁ [] 0 0 := Stand.of_body Bd
 have e0 : s₁.heap = h0 := by rw [← hh, Bd.state]; rfl
 have N0 := Fr.nil n0
 refine GoW.mk ?_
 refine GoW.st (fun t k => castTop (ef4_rmM m a1) k) ?_
 show GoW p e below s (QM Z a1 xs xn xt xm h0 n0) 0 0 (s₁.setTop (mkF m 0 #[.val (.ref a1)] []))
 refine GoW.sg (mkF m 1 #[.val (.ref a1)] [(.ref a1)]) (fun t k => XS.aloadN X0.here hx rfl (hb hby d4_0) rfl rfl k) ?_
 obtain ⟨T8, X8, e8, st8⟩ := getF X0 hx hZ hown (host := "") (Or.inl (ww hw 18 rfl)) Via.refl e0 P1 (g := (mkF m 1 #[.val (.ref a1)] [(.ref a1)])) rfl rfl (hb hby d4_1)
 refine GoW.sg (mkF m 4 #[.val (.ref a1)] [(.double xs)]) (fun t k => st8 t k) ?_
 refine GoW.sg (mkF m 5 #[.val (.ref a1)] [(.ref a1), (.double xs)]) (fun t k => XS.aloadN X8.here hx rfl (hb hby d4_4) rfl rfl k) ?_
 obtain ⟨T9, X9, e9, st9⟩ := getF X8 hx hZ hown (host := "") (Or.inl (ww hw 22 rfl)) Via.refl e8 P2 (g := (mkF m 5 #[.val (.ref a1)] [(.ref a1), (.double xs)])) rfl rfl (hb hby d4_5)
 refine GoW.sg (mkF m 8 #[.val (.ref a1)] [(.double xn), (.double xs)]) (fun t k => st9 t k) ?_
 refine GoW.sg (mkF m 9 #[.val (.ref a1)] [(.double xt)]) (fun t k => XS.daddS X9.here hx rfl (hb hby d4_8) rfl (v := xt) n1 ht k) ?_
 refine GoW.sg (mkF m 12 #[.val (.ref a1)] [(.double 4611686018427387904), (.double xt)]) (fun t k => X9.ldc2DoubleC hx hown (mvT hZ (ww hw 31 rfl)) (g := (mkF m 9 #[.val (.ref a1)] [(.double xt)])) rfl (hb hby d4_9) t k) ?_
 refine GoW.sg (mkF m 13 #[.val (.ref a1)] [(.double xm)]) (fun t k => XS.ddivS X9.here hx rfl (hb hby d4_12) rfl (v := xm) n2 hm k) ?_
 refine GoW.retD X9 hx Bd.returns (hb hby d4_13) Bd.notSynchronized ?_ (by decide) (by decide)
 rw [e9]
 exact ⟨rfl, N0, rfl⟩
theorem ef0_rm0 (m : MethodId) (q1 : Int32) (q2 : Int32) (q3 : Int32) (q4 : Int32) : entryFrame m #[(.int q1), (.int q2), (.int q3), (.int q4)] maxLocals = (mkF m 0 #[.val (.int q1), .val (.int q2), .val (.int q3), .val (.int q4), .unset, .unset, .unset, .unset, .unset, .unset, .unset, .unset, .unset, .unset, .unset, .unset, .unset, .unset, .unset, .unset, .unset, .unset, .unset, .unset, .unset] []) := by first | (simp [entryFrame, mkF, argsToLocals, Value.category, maxLocals]; done) | rfl
set_option maxRecDepth 65536 in
set_option maxHeartbeats 40000000 in
theorem rm0 (l : Launch) (Z : State) (a0 : Array Value) (hw : ∀ d ∈ tables_1, d.before a0 Z = true) (ws : List Jvm.Cond) (q1 : Int32) (q2 : Int32) (q3 : Int32) (q4 : Int32)  (h0 : Heap) (n0 : Nat) (Z0 : n0 ≤ h0.size)  :
    MetFree l x (head1 (Jvm.Cond.code x code maxLocals ret :: ws) room_1) (fun a U => a = #[(.int q1), (.int q2), (.int q3), (.int q4)] ∧ Z.Warmed39 U.vm ∧ U.heap = h0) (fun _ _ _ _ _ => True) (fun _ U o U' => ∃ v L, o = .returned v ∧ (ValQ (.int (1 : Int32)) n0) v U'.heap L ∧ FrameEnd U o U' L room_1.cells room_1.slots) := by
 refine MetFree.of_bodySF (plainFor_of_name pn_com_example_saunter_saunter_geo_BoundsMiddleLatitudePinLaw) hisR ?_
 intro p e s m args below meth c s₁ Bd hml0 hP hK
 obtain ⟨rfl, hZ, hh⟩ := hP
 have hx := Bd.exec
 have hby := Bd.bytes
 have hml : c.maxLocals = 25 := hml0
 have hown : s.vm.findClass "com/example/saunter/saunter/geo/BoundsMiddleLatitudePinLaw" = some m.cls := findClass_of_methodNamed Bd.named
 have hnm := (name_of_methodNamed Bd.named Bd.method).1
 have X0 : Stand p l e room_1 s m #[(.int q1), (.int q2), (.int q3), (.int q4)] below meth c s₁ [] 0 0 := Stand.of_body Bd
 have e0 : s₁.heap = h0 := by rw [← hh, Bd.state]; rfl
 have N0 := Fr.nil n0
 refine GoW.mk ?_
 refine GoW.st (fun t k => castTop (ef0_rm0 m q1 q2 q3 q4) k) ?_
 show GoW p e below s (ValQ (.int (1 : Int32)) n0) room_1.cells room_1.slots (s₁.setTop (mkF m 0 (Sh1 q1 q2 q3 q4) []))
 refine GoW.sg (mkF m 1 (Sh1 q1 q2 q3 q4) [(.int q1)]) (fun t k => XS.iloadN X0.here hx rfl (hb hby at_0) rfl k) ?_
 refine GoW.sg (mkF m 3 (Sh1 q1 q2 q3 q4) [(.int 2147483647), (.int q1)]) (fun t k => X0.ldcInt hx hown (mvT hZ (ww hw 0 rfl)) (g := (mkF m 1 (Sh1 q1 q2 q3 q4) [(.int q1)])) rfl (hb hby at_1) t k) ?_
 refine GoW.sg (mkF m 4 (Sh1 q1 q2 q3 q4) [(.int (q1 &&& (2147483647 : Int32)))]) (fun t k => XS.iand X0.here hx rfl (hb hby at_3) rfl k) ?_
 refine GoW.sg (mkF m 6 (Sh1 q1 q2 q3 q4) [(.int 184321), (.int (q1 &&& (2147483647 : Int32)))]) (fun t k => X0.ldcInt hx hown (mvT hZ (ww hw 1 rfl)) (g := (mkF m 4 (Sh1 q1 q2 q3 q4) [(.int (q1 &&& (2147483647 : Int32)))])) rfl (hb hby at_4) t k) ?_
 refine GoW.sg (mkF m 7 (Sh1 q1 q2 q3 q4) [(.int ((q1 &&& (2147483647 : Int32)) % (184321 : Int32)))]) (fun t k => iremM X0 hx rfl (hb hby at_6) rfl (by decide) k) ?_
 refine GoW.sg (mkF m 9 (Sh1 q1 q2 q3 q4) [(.int 92160), (.int ((q1 &&& (2147483647 : Int32)) % (184321 : Int32)))]) (fun t k => X0.ldcInt hx hown (mvT hZ (ww hw 2 rfl)) (g := (mkF m 7 (Sh1 q1 q2 q3 q4) [(.int ((q1 &&& (2147483647 : Int32)) % (184321 : Int32)))])) rfl (hb hby at_7) t k) ?_
 refine GoW.sg (mkF m 10 (Sh1 q1 q2 q3 q4) [(.int (((q1 &&& (2147483647 : Int32)) % (184321 : Int32)) - (92160 : Int32)))]) (fun t k => XS.isub X0.here hx rfl (hb hby at_9) rfl k) ?_
 refine GoW.sg (mkF m 12 (Sh2 q1 q2 q3 q4 (((q1 &&& (2147483647 : Int32)) % (184321 : Int32)) - (92160 : Int32))) []) (fun t k => XS.istore X0.here hx rfl (hb hby at_10) rfl (l' := (Sh2 q1 q2 q3 q4 (((q1 &&& (2147483647 : Int32)) % (184321 : Int32)) - (92160 : Int32)))) rfl k) ?_
 obtain ⟨za, hza⟩ : ∃ z : Int32, z = (((q1 &&& (2147483647 : Int32)) % (184321 : Int32)) - (92160 : Int32)) := ⟨_, rfl⟩
 have bza := own_ab q1
 rw [← hza] at bza
 rw [← hza]
 show GoW p e below s (ValQ (.int (1 : Int32)) n0) room_1.cells room_1.slots (s₁.setTop (mkF m 12 (Sh2 q1 q2 q3 q4 za) []))
 refine GoW.sg (mkF m 13 (Sh2 q1 q2 q3 q4 za) [(.int q2)]) (fun t k => XS.iloadN X0.here hx rfl (hb hby at_12) rfl k) ?_
 refine GoW.sg (mkF m 15 (Sh2 q1 q2 q3 q4 za) [(.int 2147483647), (.int q2)]) (fun t k => X0.ldcInt hx hown (mvT hZ (ww hw 0 rfl)) (g := (mkF m 13 (Sh2 q1 q2 q3 q4 za) [(.int q2)])) rfl (hb hby at_13) t k) ?_
 refine GoW.sg (mkF m 16 (Sh2 q1 q2 q3 q4 za) [(.int (q2 &&& (2147483647 : Int32)))]) (fun t k => XS.iand X0.here hx rfl (hb hby at_15) rfl k) ?_
 refine GoW.sg (mkF m 18 (Sh2 q1 q2 q3 q4 za) [(.int 184321), (.int (q2 &&& (2147483647 : Int32)))]) (fun t k => X0.ldcInt hx hown (mvT hZ (ww hw 1 rfl)) (g := (mkF m 16 (Sh2 q1 q2 q3 q4 za) [(.int (q2 &&& (2147483647 : Int32)))])) rfl (hb hby at_16) t k) ?_
 refine GoW.sg (mkF m 19 (Sh2 q1 q2 q3 q4 za) [(.int ((q2 &&& (2147483647 : Int32)) % (184321 : Int32)))]) (fun t k => iremM X0 hx rfl (hb hby at_18) rfl (by decide) k) ?_
 refine GoW.sg (mkF m 21 (Sh2 q1 q2 q3 q4 za) [(.int 92160), (.int ((q2 &&& (2147483647 : Int32)) % (184321 : Int32)))]) (fun t k => X0.ldcInt hx hown (mvT hZ (ww hw 2 rfl)) (g := (mkF m 19 (Sh2 q1 q2 q3 q4 za) [(.int ((q2 &&& (2147483647 : Int32)) % (184321 : Int32)))])) rfl (hb hby at_19) t k) ?_
 refine GoW.sg (mkF m 22 (Sh2 q1 q2 q3 q4 za) [(.int (((q2 &&& (2147483647 : Int32)) % (184321 : Int32)) - (92160 : Int32)))]) (fun t k => XS.isub X0.here hx rfl (hb hby at_21) rfl k) ?_
 refine GoW.sg (mkF m 24 (Sh3 q1 q2 q3 q4 za (((q2 &&& (2147483647 : Int32)) % (184321 : Int32)) - (92160 : Int32))) []) (fun t k => XS.istore X0.here hx rfl (hb hby at_22) rfl (l' := (Sh3 q1 q2 q3 q4 za (((q2 &&& (2147483647 : Int32)) % (184321 : Int32)) - (92160 : Int32)))) rfl k) ?_
 obtain ⟨zb, hzb⟩ : ∃ z : Int32, z = (((q2 &&& (2147483647 : Int32)) % (184321 : Int32)) - (92160 : Int32)) := ⟨_, rfl⟩
 have bzb := own_ab q2
 rw [← hzb] at bzb
 rw [← hzb]
 show GoW p e below s (ValQ (.int (1 : Int32)) n0) room_1.cells room_1.slots (s₁.setTop (mkF m 24 (Sh3 q1 q2 q3 q4 za zb) []))
 refine GoW.sg (mkF m 26 (Sh3 q1 q2 q3 q4 za zb) [(.int za)]) (fun t k => XS.iload X0.here hx rfl (hb hby at_24) rfl k) ?_
 obtain ⟨d10, hd10⟩ : ∃ d : UInt64, d = FP.l2d za.toInt64 := ⟨_, rfl⟩
 refine GoW.sg (mkF m 27 (Sh3 q1 q2 q3 q4 za zb) [(.double d10)]) (fun t k => XS.i2dS X0.here hx rfl (hb hby at_26) rfl (v := d10) ((i2d_w _).trans hd10.symm) k) ?_
 refine GoW.sg (mkF m 30 (Sh3 q1 q2 q3 q4 za zb) [(.double 4652218415073722368), (.double d10)]) (fun t k => X0.ldc2DoubleC hx hown (mvT hZ (ww hw 3 rfl)) (g := (mkF m 27 (Sh3 q1 q2 q3 q4 za zb) [(.double d10)])) rfl (hb hby at_27) t k) ?_
 obtain ⟨dS, hdS⟩ : ∃ d : UInt64, d = FP.ddiv d10 (4652218415073722368 : UInt64) := ⟨_, rfl⟩
 have DS : Dy za.toInt 1064 dS := by rw [hdS, hd10]; exact own_S bza
 refine GoW.sg (mkF m 31 (Sh3 q1 q2 q3 q4 za zb) [(.double dS)]) (fun t k => XS.ddivS X0.here hx rfl (hb hby at_30) rfl (v := dS) (by rw [← hdS]; exact own_dyN DS) hdS.symm k) ?_
 refine GoW.sg (mkF m 33 (Sh4 q1 q2 q3 q4 za zb dS) []) (fun t k => XS.dstore X0.here hx rfl (hb hby at_31) rfl (l' := (Sh4 q1 q2 q3 q4 za zb dS)) rfl k) ?_
 refine GoW.sg (mkF m 35 (Sh4 q1 q2 q3 q4 za zb dS) [(.int zb)]) (fun t k => XS.iload X0.here hx rfl (hb hby at_33) rfl k) ?_
 obtain ⟨d11, hd11⟩ : ∃ d : UInt64, d = FP.l2d zb.toInt64 := ⟨_, rfl⟩
 refine GoW.sg (mkF m 36 (Sh4 q1 q2 q3 q4 za zb dS) [(.double d11)]) (fun t k => XS.i2dS X0.here hx rfl (hb hby at_35) rfl (v := d11) ((i2d_w _).trans hd11.symm) k) ?_
 refine GoW.sg (mkF m 39 (Sh4 q1 q2 q3 q4 za zb dS) [(.double 4652218415073722368), (.double d11)]) (fun t k => X0.ldc2DoubleC hx hown (mvT hZ (ww hw 3 rfl)) (g := (mkF m 36 (Sh4 q1 q2 q3 q4 za zb dS) [(.double d11)])) rfl (hb hby at_36) t k) ?_
 obtain ⟨dN, hdN⟩ : ∃ d : UInt64, d = FP.ddiv d11 (4652218415073722368 : UInt64) := ⟨_, rfl⟩
 have DN : Dy zb.toInt 1064 dN := by rw [hdN, hd11]; exact own_S bzb
 refine GoW.sg (mkF m 40 (Sh4 q1 q2 q3 q4 za zb dS) [(.double dN)]) (fun t k => XS.ddivS X0.here hx rfl (hb hby at_39) rfl (v := dN) (by rw [← hdN]; exact own_dyN DN) hdN.symm k) ?_
 refine GoW.sg (mkF m 42 (Sh5 q1 q2 q3 q4 za zb dS dN) []) (fun t k => XS.dstore X0.here hx rfl (hb hby at_40) rfl (l' := (Sh5 q1 q2 q3 q4 za zb dS dN)) rfl k) ?_
 refine GoW.sg (mkF m 43 (Sh5 q1 q2 q3 q4 za zb dS dN) [(.int q3)]) (fun t k => XS.iloadN X0.here hx rfl (hb hby at_42) rfl k) ?_
 refine GoW.sg (mkF m 46 (Sh5 q1 q2 q3 q4 za zb dS dN) [(.int 361), (.int q3)]) (fun t k => XS.sipush X0.here hx rfl (hb hby at_43) k) ?_
 refine GoW.sg (mkF m 47 (Sh5 q1 q2 q3 q4 za zb dS dN) [(.int (q3 % (361 : Int32)))]) (fun t k => iremM X0 hx rfl (hb hby at_46) rfl (by decide) k) ?_
 obtain ⟨d12, hd12⟩ : ∃ d : UInt64, d = FP.l2d (q3 % (361 : Int32)).toInt64 := ⟨_, rfl⟩
 refine GoW.sg (mkF m 48 (Sh5 q1 q2 q3 q4 za zb dS dN) [(.double d12)]) (fun t k => XS.i2dS X0.here hx rfl (hb hby at_47) rfl (v := d12) ((i2d_w _).trans hd12.symm) k) ?_
 refine GoW.sg (mkF m 50 (Sh6 q1 q2 q3 q4 za zb dS dN d12) []) (fun t k => XS.dstore X0.here hx rfl (hb hby at_48) rfl (l' := (Sh6 q1 q2 q3 q4 za zb dS dN d12)) rfl k) ?_
 refine GoW.sg (mkF m 51 (Sh6 q1 q2 q3 q4 za zb dS dN d12) [(.int q4)]) (fun t k => XS.iloadN X0.here hx rfl (hb hby at_50) rfl k) ?_
 refine GoW.sg (mkF m 54 (Sh6 q1 q2 q3 q4 za zb dS dN d12) [(.int 361), (.int q4)]) (fun t k => XS.sipush X0.here hx rfl (hb hby at_51) k) ?_
 refine GoW.sg (mkF m 55 (Sh6 q1 q2 q3 q4 za zb dS dN d12) [(.int (q4 % (361 : Int32)))]) (fun t k => iremM X0 hx rfl (hb hby at_54) rfl (by decide) k) ?_
 obtain ⟨d13, hd13⟩ : ∃ d : UInt64, d = FP.l2d (q4 % (361 : Int32)).toInt64 := ⟨_, rfl⟩
 refine GoW.sg (mkF m 56 (Sh6 q1 q2 q3 q4 za zb dS dN d12) [(.double d13)]) (fun t k => XS.i2dS X0.here hx rfl (hb hby at_55) rfl (v := d13) ((i2d_w _).trans hd13.symm) k) ?_
 refine GoW.sg (mkF m 58 (Sh7 q1 q2 q3 q4 za zb dS dN d12 d13) []) (fun t k => XS.dstore X0.here hx rfl (hb hby at_56) rfl (l' := (Sh7 q1 q2 q3 q4 za zb dS dN d12 d13)) rfl k) ?_
 obtain ⟨T14, h14, X14, e14, E14, A14, D14, -, st14⟩ := newO X0 hx hZ hown (ww hw 4 rfl) (ww hw 5 rfl) (ww hw 6 rfl) e0 (g := (mkF m 58 (Sh7 q1 q2 q3 q4 za zb dS dN d12 d13) [])) rfl (hb hby at_58) (by decide) (by decide)
 obtain ⟨b14, g14⟩ : ∃ z, z = h0.size := ⟨_, rfl⟩
 rw [← g14] at A14 D14 st14
 have g_b14 : n0 ≤ b14 := Nat.le_trans Z0 (Nat.le_of_eq g14.symm)
 have F14south : Fld Z h14 b14 "com/example/saunter/saunter/geo/Bounds" "south" "D" (.double (0 : UInt64)) := D14 (Or.inr (ww hw 19 rfl)) (ty := .double) (by decide)
 have F14west : Fld Z h14 b14 "com/example/saunter/saunter/geo/Bounds" "west" "D" (.double (0 : UInt64)) := D14 (Or.inr (ww hw 21 rfl)) (ty := .double) (by decide)
 have F14north : Fld Z h14 b14 "com/example/saunter/saunter/geo/Bounds" "north" "D" (.double (0 : UInt64)) := D14 (Or.inr (ww hw 23 rfl)) (ty := .double) (by decide)
 have F14east : Fld Z h14 b14 "com/example/saunter/saunter/geo/Bounds" "east" "D" (.double (0 : UInt64)) := D14 (Or.inr (ww hw 25 rfl)) (ty := .double) (by decide)
 refine GoW.sg (mkF m 61 (Sh7 q1 q2 q3 q4 za zb dS dN d12 d13) [(.ref b14)]) (fun t k => st14 t k) ?_
 refine GoW.sg (mkF m 62 (Sh7 q1 q2 q3 q4 za zb dS dN d12 d13) [(.ref b14), (.ref b14)]) (fun t k => XS.dup X14.here hx rfl (hb hby at_61) rfl rfl k) ?_
 refine GoW.sg (mkF m 64 (Sh7 q1 q2 q3 q4 za zb dS dN d12 d13) [(.double dS), (.ref b14), (.ref b14)]) (fun t k => XS.dload X14.here hx rfl (hb hby at_62) rfl k) ?_
 refine GoW.sg (mkF m 66 (Sh7 q1 q2 q3 q4 za zb dS dN d12 d13) [(.double d12), (.double dS), (.ref b14), (.ref b14)]) (fun t k => XS.dload X14.here hx rfl (hb hby at_64) rfl k) ?_
 refine GoW.sg (mkF m 68 (Sh7 q1 q2 q3 q4 za zb dS dN d12 d13) [(.double dN), (.double d12), (.double dS), (.ref b14), (.ref b14)]) (fun t k => XS.dload X14.here hx rfl (hb hby at_66) rfl k) ?_
 refine GoW.sg (mkF m 70 (Sh7 q1 q2 q3 q4 za zb dS dN d12 d13) [(.double d13), (.double dN), (.double d12), (.double dS), (.ref b14), (.ref b14)]) (fun t k => XS.dload X14.here hx rfl (hb hby at_68) rfl k) ?_
 obtain ⟨_, _, ⟨T15, L15, k15, n15⟩, -, X15, ⟨Lc15, hQ15, l15, y15, z15⟩, st15⟩ := X14.specialBack hx (y := Y1) rfl hown (mvT hZ (ww hw 7 rfl)) (mvT hZ (ww hw 8 rfl)) (mvT hZ (ww hw 9 rfl)) (by decide) (backOf (W := 1) (rmI l Z a0 hw [] b14 dS d12 dN d13  h14 n0  A14 F14south F14west F14north F14east g_b14    ) hZ (ww hw 9 rfl) (ww hw 6 rfl) (by decide) (by decide)) (g := (mkF m 70 (Sh7 q1 q2 q3 q4 za zb dS dN d12 d13) [(.double d13), (.double dN), (.double d12), (.double dS), (.ref b14), (.ref b14)])) rfl (by rw [hml]; rfl) (Steps.refl _) (a := b14) (argsL := [(.double dS), (.double d12), (.double dN), (.double d13)]) (rest := [(.ref b14)]) (lenOf pd_28DDDD29V rfl) rfl (by show 2 * 0 + _ ≤ _; exact Nat.le_of_eq rfl) (hb hby at_70) (fun _ _ => ⟨rfl, e14, (by decide : 1 + 0 ≤ _), (by decide : 4 + 0 ≤ _)⟩)
 dsimp only [Pt.U, Pt.locs, Pt.cells, Pt.slots] at X15 l15 y15 z15 st15 hQ15
 subst l15 y15 z15
 obtain ⟨rfl, N15q, K15, p15_0, p15_1, p15_2, p15_3, p15_4⟩ := hQ15
 have N15 := Fr.app N0 N15q
 refine GoW.sg (mkF m 73 (Sh7 q1 q2 q3 q4 za zb dS dN d12 d13) [(.ref b14)]) (fun t k => st15.trans k) ?_
 refine GoW.sg (mkF m 75 (Sh8 q1 q2 q3 q4 za zb dS dN d12 d13 b14) []) (fun t k => XS.astore X15.here hx rfl (hb hby at_73) rfl rfl (l' := (Sh8 q1 q2 q3 q4 za zb dS dN d12 d13 b14)) rfl k) ?_
 refine GoW.sg (mkF m 77 (Sh8 q1 q2 q3 q4 za zb dS dN d12 d13 b14) [(.ref b14)]) (fun t k => XS.aload X15.here hx rfl (hb hby at_75) rfl rfl k) ?_
 obtain ⟨dT, hdT⟩ : ∃ d : UInt64, d = FP.dadd dS dN := ⟨_, rfl⟩
 obtain ⟨dM, hdM⟩ : ∃ d : UInt64, d = FP.ddiv dT (4611686018427387904 : UInt64) := ⟨_, rfl⟩
 have DT : Dy (za.toInt + zb.toInt) 1064 dT := by rw [hdT]; exact (own_M DS DN bza bzb).1
 have DM : Dy (za.toInt + zb.toInt) 1063 dM := by rw [hdM, hdT]; exact (own_M DS DN bza bzb).2
 obtain ⟨cq16, kq16, q16a, q16b, q16c⟩ := isOf hZ rfl p15_0
 obtain ⟨_, _, ⟨T16, L16, k16, n16⟩, -, X16, ⟨Lc16, hQ16, l16, y16, z16⟩, st16⟩ := X15.virtualBack hx (y := Y4) (z := Y4) hown (mvT hZ (ww hw 26 rfl)) (mvT hZ (ww hw 27 rfl)) (notFace_of_selects (args := #[]) (mvT hZ (ww hw 29 rfl))) (mvT hZ (ww hw 29 rfl)) (mvT hZ (ww hw 28 rfl)) (by decide) (backOf (W := 0) (rmM l Z a0 hw [] b14 dS dN dT dM T15.heap n0  p15_0 p15_1 p15_3     (by rw [← hdT]; exact own_dyN DT) hdT.symm (by rw [← hdM]; exact own_dyN DM) hdM.symm) hZ (ww hw 30 rfl) (ww hw 6 rfl) (by decide) (by decide)) q16a q16c (g := (mkF m 77 (Sh8 q1 q2 q3 q4 za zb dS dN d12 d13 b14) [(.ref b14)])) rfl (by rw [hml]; rfl) (Steps.refl _) (argsL := []) (rest := []) (lenOf pd_2829D rfl) rfl (by show 2 * 0 + _ ≤ _; exact Nat.le_of_eq rfl) (hb hby at_77) (fun _ _ => ⟨rfl, rfl, (by decide : 1 + 0 ≤ _), (by decide : 4 + 0 ≤ _)⟩)
 dsimp only [Pt.U, Pt.locs, Pt.cells, Pt.slots] at X16 l16 y16 z16 st16 hQ16
 subst l16 y16 z16
 obtain ⟨rfl, N16q, e16⟩ := hQ16
 have N16 := Fr.app N15 N16q
 refine GoW.sg (mkF m 80 (Sh8 q1 q2 q3 q4 za zb dS dN d12 d13 b14) [(.double dM)]) (fun t k => st16.trans k) ?_
 refine GoW.sg (mkF m 82 (Sh9 q1 q2 q3 q4 za zb dS dN d12 d13 b14 dM) []) (fun t k => XS.dstore X16.here hx rfl (hb hby at_80) rfl (l' := (Sh9 q1 q2 q3 q4 za zb dS dN d12 d13 b14 dM)) rfl k) ?_
 refine GoW.sg (mkF m 84 (Sh9 q1 q2 q3 q4 za zb dS dN d12 d13 b14 dM) [(.int za)]) (fun t k => XS.iload X16.here hx rfl (hb hby at_82) rfl k) ?_
 refine GoW.sg (mkF m 86 (Sh9 q1 q2 q3 q4 za zb dS dN d12 d13 b14 dM) [(.int zb), (.int za)]) (fun t k => XS.iload X16.here hx rfl (hb hby at_84) rfl k) ?_
 refine GoW.sg (mkF m 87 (Sh9 q1 q2 q3 q4 za zb dS dN d12 d13 b14 dM) [(.int (za + zb))]) (fun t k => XS.iadd X16.here hx rfl (hb hby at_86) rfl k) ?_
 obtain ⟨d17, hd17⟩ : ∃ d : UInt64, d = FP.l2d (za + zb).toInt64 := ⟨_, rfl⟩
 refine GoW.sg (mkF m 88 (Sh9 q1 q2 q3 q4 za zb dS dN d12 d13 b14 dM) [(.double d17)]) (fun t k => XS.i2dS X16.here hx rfl (hb hby at_87) rfl (v := d17) ((i2d_w _).trans hd17.symm) k) ?_
 refine GoW.sg (mkF m 90 (Sh10 q1 q2 q3 q4 za zb dS dN d12 d13 b14 dM d17) []) (fun t k => XS.dstore X16.here hx rfl (hb hby at_88) rfl (l' := (Sh10 q1 q2 q3 q4 za zb dS dN d12 d13 b14 dM d17)) rfl k) ?_
 refine GoW.sg (mkF m 92 (Sh10 q1 q2 q3 q4 za zb dS dN d12 d13 b14 dM d17) [(.double dM)]) (fun t k => XS.dload X16.here hx rfl (hb hby at_90) rfl k) ?_
 refine GoW.sg (mkF m 95 (Sh10 q1 q2 q3 q4 za zb dS dN d12 d13 b14 dM d17) [(.double 4656722014701092864), (.double dM)]) (fun t k => X16.ldc2DoubleC hx hown (mvT hZ (ww hw 32 rfl)) (g := (mkF m 92 (Sh10 q1 q2 q3 q4 za zb dS dN d12 d13 b14 dM d17) [(.double dM)])) rfl (hb hby at_92) t k) ?_
 obtain ⟨dP, hdP⟩ : ∃ d : UInt64, d = FP.dmul dM (4656722014701092864 : UInt64) := ⟨_, rfl⟩
 have DP : Dy (za.toInt + zb.toInt) 1074 dP := by rw [hdP]; exact own_P DM (by omega)
 refine GoW.sg (mkF m 96 (Sh10 q1 q2 q3 q4 za zb dS dN d12 d13 b14 dM d17) [(.double dP)]) (fun t k => XS.dmulS X16.here hx rfl (hb hby at_95) rfl (v := dP) (by rw [← hdP]; exact own_dyN DP) hdP.symm k) ?_
 refine GoW.sg (mkF m 98 (Sh10 q1 q2 q3 q4 za zb dS dN d12 d13 b14 dM d17) [(.double d17), (.double dP)]) (fun t k => XS.dload X16.here hx rfl (hb hby at_96) rfl k) ?_
 have DL : Dy (za.toInt + zb.toInt) 1074 d17 := by rw [hd17]; exact own_T bza bzb
 refine GoW.sg (mkF m 99 (Sh10 q1 q2 q3 q4 za zb dS dN d12 d13 b14 dM d17) [(.int 0)]) (fun t k => XS.dcmpS X16.here hx rfl (hb hby at_98) rfl (v := (0 : Int32)) (own_dyEq DP DL _) k) ?_
 refine GoW.sg (mkF m 102 (Sh10 q1 q2 q3 q4 za zb dS dN d12 d13 b14 dM d17) []) (fun t k => XS.ifNo X16.here hx rfl (hb hby at_99) rfl (by decide) k) ?_
 refine GoW.sg (mkF m 103 (Sh10 q1 q2 q3 q4 za zb dS dN d12 d13 b14 dM d17) [(.int 1)]) (fun t k => XS.iconst X16.here hx rfl (hb hby at_102) k) ?_
 refine GoW.sg (mkF m 107 (Sh10 q1 q2 q3 q4 za zb dS dN d12 d13 b14 dM d17) [(.int 1)]) (fun t k => XS.goto X16.here hx rfl (pc0 := 103) (pc' := 107) rfl (hb hby at_103) (by decide) (by decide) k) ?_
 refine GoW.sg (mkF m 109 (Sh11 q1 q2 q3 q4 za zb dS dN d12 d13 b14 dM d17 1) []) (fun t k => XS.istore X16.here hx rfl (hb hby at_107) rfl (l' := (Sh11 q1 q2 q3 q4 za zb dS dN d12 d13 b14 dM d17 1)) rfl k) ?_
 refine GoW.sg (mkF m 111 (Sh11 q1 q2 q3 q4 za zb dS dN d12 d13 b14 dM d17 1) [(.int za)]) (fun t k => XS.iload X16.here hx rfl (hb hby at_109) rfl k) ?_
 refine GoW.sg (mkF m 113 (Sh11 q1 q2 q3 q4 za zb dS dN d12 d13 b14 dM d17 1) [(.int zb), (.int za)]) (fun t k => XS.iload X16.here hx rfl (hb hby at_111) rfl k) ?_
 by_cases c18 : za < zb
 ·refine GoW.sg (mkF m 116 (Sh11 q1 q2 q3 q4 za zb dS dN d12 d13 b14 dM d17 1) []) (fun t k => XS.icmpNo X16.here hx rfl (hb hby at_113) rfl (tlt c18).2.1 k) ?_
  refine GoW.sg (mkF m 118 (Sh11 q1 q2 q3 q4 za zb dS dN d12 d13 b14 dM d17 1) [(.double dS)]) (fun t k => XS.dload X16.here hx rfl (hb hby at_116) rfl k) ?_
  refine GoW.sg (mkF m 123 (Sh11 q1 q2 q3 q4 za zb dS dN d12 d13 b14 dM d17 1) [(.double dS)]) (fun t k => XS.goto X16.here hx rfl (pc0 := 118) (pc' := 123) rfl (hb hby at_118) (by decide) (by decide) k) ?_
  refine GoW.sg (mkF m 125 (Sh12 q1 q2 q3 q4 za zb dS dN d12 d13 b14 dM d17 1 dS) []) (fun t k => XS.dstore X16.here hx rfl (hb hby at_123) rfl (l' := (Sh12 q1 q2 q3 q4 za zb dS dN d12 d13 b14 dM d17 1 dS)) rfl k) ?_
  refine GoW.sg (mkF m 127 (Sh12 q1 q2 q3 q4 za zb dS dN d12 d13 b14 dM d17 1 dS) [(.int za)]) (fun t k => XS.iload X16.here hx rfl (hb hby at_125) rfl k) ?_
  refine GoW.sg (mkF m 129 (Sh12 q1 q2 q3 q4 za zb dS dN d12 d13 b14 dM d17 1 dS) [(.int zb), (.int za)]) (fun t k => XS.iload X16.here hx rfl (hb hby at_127) rfl k) ?_
  refine GoW.sg (mkF m 132 (Sh12 q1 q2 q3 q4 za zb dS dN d12 d13 b14 dM d17 1 dS) []) (fun t k => XS.icmpNo X16.here hx rfl (hb hby at_129) rfl (tlt c18).2.1 k) ?_
  refine GoW.sg (mkF m 134 (Sh12 q1 q2 q3 q4 za zb dS dN d12 d13 b14 dM d17 1 dS) [(.double dN)]) (fun t k => XS.dload X16.here hx rfl (hb hby at_132) rfl k) ?_
  refine GoW.sg (mkF m 139 (Sh12 q1 q2 q3 q4 za zb dS dN d12 d13 b14 dM d17 1 dS) [(.double dN)]) (fun t k => XS.goto X16.here hx rfl (pc0 := 134) (pc' := 139) rfl (hb hby at_134) (by decide) (by decide) k) ?_
  refine GoW.sg (mkF m 141 (Sh13 q1 q2 q3 q4 za zb dS dN d12 d13 b14 dM d17 1 dS dN) []) (fun t k => XS.dstore X16.here hx rfl (hb hby at_139) rfl (l' := (Sh13 q1 q2 q3 q4 za zb dS dN d12 d13 b14 dM d17 1 dS dN)) rfl k) ?_
  refine GoW.sg (mkF m 143 (Sh13 q1 q2 q3 q4 za zb dS dN d12 d13 b14 dM d17 1 dS dN) [(.double dS)]) (fun t k => XS.dload X16.here hx rfl (hb hby at_141) rfl k) ?_
  refine GoW.sg (mkF m 145 (Sh13 q1 q2 q3 q4 za zb dS dN d12 d13 b14 dM d17 1 dS dN) [(.double dM), (.double dS)]) (fun t k => XS.dload X16.here hx rfl (hb hby at_143) rfl k) ?_
  obtain ⟨v19, hv19⟩ : ∃ v : Int32, v = cmpValue (FP.dcmp dS dM) .g := ⟨_, rfl⟩
  have hn19 : ¬ ((0 : Int32) < v19) := by rw [hv19]; rw [Int32.lt_iff_toInt_lt] at c18; exact own_dyLe (own_dyDown (t := 1063) DS) DM (by omega) _
  refine GoW.sg (mkF m 146 (Sh13 q1 q2 q3 q4 za zb dS dN d12 d13 b14 dM d17 1 dS dN) [(.int v19)]) (fun t k => XS.dcmpS X16.here hx rfl (hb hby at_145) rfl (v := v19) hv19.symm k) ?_
  refine GoW.sg (mkF m 149 (Sh13 q1 q2 q3 q4 za zb dS dN d12 d13 b14 dM d17 1 dS dN) []) (fun t k => XS.ifNo X16.here hx rfl (hb hby at_146) rfl ((if0 _ _).trans (flt hn19).2.2.1) k) ?_
  refine GoW.sg (mkF m 151 (Sh13 q1 q2 q3 q4 za zb dS dN d12 d13 b14 dM d17 1 dS dN) [(.double dM)]) (fun t k => XS.dload X16.here hx rfl (hb hby at_149) rfl k) ?_
  refine GoW.sg (mkF m 153 (Sh13 q1 q2 q3 q4 za zb dS dN d12 d13 b14 dM d17 1 dS dN) [(.double dN), (.double dM)]) (fun t k => XS.dload X16.here hx rfl (hb hby at_151) rfl k) ?_
  obtain ⟨v20, hv20⟩ : ∃ v : Int32, v = cmpValue (FP.dcmp dM dN) .g := ⟨_, rfl⟩
  have hn20 : ¬ ((0 : Int32) < v20) := by rw [hv20]; rw [Int32.lt_iff_toInt_lt] at c18; exact own_dyLe DM (own_dyDown (t := 1063) DN) (by omega) _
  refine GoW.sg (mkF m 154 (Sh13 q1 q2 q3 q4 za zb dS dN d12 d13 b14 dM d17 1 dS dN) [(.int v20)]) (fun t k => XS.dcmpS X16.here hx rfl (hb hby at_153) rfl (v := v20) hv20.symm k) ?_
  refine GoW.sg (mkF m 157 (Sh13 q1 q2 q3 q4 za zb dS dN d12 d13 b14 dM d17 1 dS dN) []) (fun t k => XS.ifNo X16.here hx rfl (hb hby at_154) rfl ((if0 _ _).trans (flt hn20).2.2.1) k) ?_
  refine GoW.sg (mkF m 158 (Sh13 q1 q2 q3 q4 za zb dS dN d12 d13 b14 dM d17 1 dS dN) [(.int 1)]) (fun t k => XS.iconst X16.here hx rfl (hb hby at_157) k) ?_
  refine GoW.sg (mkF m 162 (Sh13 q1 q2 q3 q4 za zb dS dN d12 d13 b14 dM d17 1 dS dN) [(.int 1)]) (fun t k => XS.goto X16.here hx rfl (pc0 := 158) (pc' := 162) rfl (hb hby at_158) (by decide) (by decide) k) ?_
  refine GoW.sg (mkF m 164 (Sh14 q1 q2 q3 q4 za zb dS dN d12 d13 b14 dM d17 1 dS dN 1) []) (fun t k => XS.istore X16.here hx rfl (hb hby at_162) rfl (l' := (Sh14 q1 q2 q3 q4 za zb dS dN d12 d13 b14 dM d17 1 dS dN 1)) rfl k) ?_
  refine GoW.sg (mkF m 166 (Sh14 q1 q2 q3 q4 za zb dS dN d12 d13 b14 dM d17 1 dS dN 1) [(.int 1)]) (fun t k => XS.iload X16.here hx rfl (hb hby at_164) rfl k) ?_
  refine GoW.sg (mkF m 169 (Sh14 q1 q2 q3 q4 za zb dS dN d12 d13 b14 dM d17 1 dS dN 1) []) (fun t k => XS.ifNo X16.here hx rfl (hb hby at_166) rfl (by decide) k) ?_
  refine GoW.sg (mkF m 171 (Sh14 q1 q2 q3 q4 za zb dS dN d12 d13 b14 dM d17 1 dS dN 1) [(.int 1)]) (fun t k => XS.iload X16.here hx rfl (hb hby at_169) rfl k) ?_
  refine GoW.sg (mkF m 174 (Sh14 q1 q2 q3 q4 za zb dS dN d12 d13 b14 dM d17 1 dS dN 1) []) (fun t k => XS.ifNo X16.here hx rfl (hb hby at_171) rfl (by decide) k) ?_
  refine GoW.sg (mkF m 175 (Sh14 q1 q2 q3 q4 za zb dS dN d12 d13 b14 dM d17 1 dS dN 1) [(.int 1)]) (fun t k => XS.iconst X16.here hx rfl (hb hby at_174) k) ?_
  refine GoW.sg (mkF m 179 (Sh14 q1 q2 q3 q4 za zb dS dN d12 d13 b14 dM d17 1 dS dN 1) [(.int 1)]) (fun t k => XS.goto X16.here hx rfl (pc0 := 175) (pc' := 179) rfl (hb hby at_175) (by decide) (by decide) k) ?_
  refine GoW.retN X16 hx (t := .boolean) Bd.returns (by simp) (hb hby at_179) Bd.notSynchronized ?_ (by decide) (by decide)
  exact ⟨rfl, N16⟩
 ·refine GoW.sg (mkF m 121 (Sh11 q1 q2 q3 q4 za zb dS dN d12 d13 b14 dM d17 1) []) (fun t k => XS.icmpYes X16.here hx rfl (pc0 := 113) (pc' := 121) rfl (hb hby at_113) rfl (flt c18).2.1 (by decide) (by decide) k) ?_
  refine GoW.sg (mkF m 123 (Sh11 q1 q2 q3 q4 za zb dS dN d12 d13 b14 dM d17 1) [(.double dN)]) (fun t k => XS.dload X16.here hx rfl (hb hby at_121) rfl k) ?_
  refine GoW.sg (mkF m 125 (Sh12 q1 q2 q3 q4 za zb dS dN d12 d13 b14 dM d17 1 dN) []) (fun t k => XS.dstore X16.here hx rfl (hb hby at_123) rfl (l' := (Sh12 q1 q2 q3 q4 za zb dS dN d12 d13 b14 dM d17 1 dN)) rfl k) ?_
  refine GoW.sg (mkF m 127 (Sh12 q1 q2 q3 q4 za zb dS dN d12 d13 b14 dM d17 1 dN) [(.int za)]) (fun t k => XS.iload X16.here hx rfl (hb hby at_125) rfl k) ?_
  refine GoW.sg (mkF m 129 (Sh12 q1 q2 q3 q4 za zb dS dN d12 d13 b14 dM d17 1 dN) [(.int zb), (.int za)]) (fun t k => XS.iload X16.here hx rfl (hb hby at_127) rfl k) ?_
  refine GoW.sg (mkF m 137 (Sh12 q1 q2 q3 q4 za zb dS dN d12 d13 b14 dM d17 1 dN) []) (fun t k => XS.icmpYes X16.here hx rfl (pc0 := 129) (pc' := 137) rfl (hb hby at_129) rfl (flt c18).2.1 (by decide) (by decide) k) ?_
  refine GoW.sg (mkF m 139 (Sh12 q1 q2 q3 q4 za zb dS dN d12 d13 b14 dM d17 1 dN) [(.double dS)]) (fun t k => XS.dload X16.here hx rfl (hb hby at_137) rfl k) ?_
  refine GoW.sg (mkF m 141 (Sh13 q1 q2 q3 q4 za zb dS dN d12 d13 b14 dM d17 1 dN dS) []) (fun t k => XS.dstore X16.here hx rfl (hb hby at_139) rfl (l' := (Sh13 q1 q2 q3 q4 za zb dS dN d12 d13 b14 dM d17 1 dN dS)) rfl k) ?_
  refine GoW.sg (mkF m 143 (Sh13 q1 q2 q3 q4 za zb dS dN d12 d13 b14 dM d17 1 dN dS) [(.double dN)]) (fun t k => XS.dload X16.here hx rfl (hb hby at_141) rfl k) ?_
  refine GoW.sg (mkF m 145 (Sh13 q1 q2 q3 q4 za zb dS dN d12 d13 b14 dM d17 1 dN dS) [(.double dM), (.double dN)]) (fun t k => XS.dload X16.here hx rfl (hb hby at_143) rfl k) ?_
  obtain ⟨v21, hv21⟩ : ∃ v : Int32, v = cmpValue (FP.dcmp dN dM) .g := ⟨_, rfl⟩
  have hn21 : ¬ ((0 : Int32) < v21) := by rw [hv21]; rw [Int32.lt_iff_toInt_lt] at c18; exact own_dyLe (own_dyDown (t := 1063) DN) DM (by omega) _
  refine GoW.sg (mkF m 146 (Sh13 q1 q2 q3 q4 za zb dS dN d12 d13 b14 dM d17 1 dN dS) [(.int v21)]) (fun t k => XS.dcmpS X16.here hx rfl (hb hby at_145) rfl (v := v21) hv21.symm k) ?_
  refine GoW.sg (mkF m 149 (Sh13 q1 q2 q3 q4 za zb dS dN d12 d13 b14 dM d17 1 dN dS) []) (fun t k => XS.ifNo X16.here hx rfl (hb hby at_146) rfl ((if0 _ _).trans (flt hn21).2.2.1) k) ?_
  refine GoW.sg (mkF m 151 (Sh13 q1 q2 q3 q4 za zb dS dN d12 d13 b14 dM d17 1 dN dS) [(.double dM)]) (fun t k => XS.dload X16.here hx rfl (hb hby at_149) rfl k) ?_
  refine GoW.sg (mkF m 153 (Sh13 q1 q2 q3 q4 za zb dS dN d12 d13 b14 dM d17 1 dN dS) [(.double dS), (.double dM)]) (fun t k => XS.dload X16.here hx rfl (hb hby at_151) rfl k) ?_
  obtain ⟨v22, hv22⟩ : ∃ v : Int32, v = cmpValue (FP.dcmp dM dS) .g := ⟨_, rfl⟩
  have hn22 : ¬ ((0 : Int32) < v22) := by rw [hv22]; rw [Int32.lt_iff_toInt_lt] at c18; exact own_dyLe DM (own_dyDown (t := 1063) DS) (by omega) _
  refine GoW.sg (mkF m 154 (Sh13 q1 q2 q3 q4 za zb dS dN d12 d13 b14 dM d17 1 dN dS) [(.int v22)]) (fun t k => XS.dcmpS X16.here hx rfl (hb hby at_153) rfl (v := v22) hv22.symm k) ?_
  refine GoW.sg (mkF m 157 (Sh13 q1 q2 q3 q4 za zb dS dN d12 d13 b14 dM d17 1 dN dS) []) (fun t k => XS.ifNo X16.here hx rfl (hb hby at_154) rfl ((if0 _ _).trans (flt hn22).2.2.1) k) ?_
  refine GoW.sg (mkF m 158 (Sh13 q1 q2 q3 q4 za zb dS dN d12 d13 b14 dM d17 1 dN dS) [(.int 1)]) (fun t k => XS.iconst X16.here hx rfl (hb hby at_157) k) ?_
  refine GoW.sg (mkF m 162 (Sh13 q1 q2 q3 q4 za zb dS dN d12 d13 b14 dM d17 1 dN dS) [(.int 1)]) (fun t k => XS.goto X16.here hx rfl (pc0 := 158) (pc' := 162) rfl (hb hby at_158) (by decide) (by decide) k) ?_
  refine GoW.sg (mkF m 164 (Sh14 q1 q2 q3 q4 za zb dS dN d12 d13 b14 dM d17 1 dN dS 1) []) (fun t k => XS.istore X16.here hx rfl (hb hby at_162) rfl (l' := (Sh14 q1 q2 q3 q4 za zb dS dN d12 d13 b14 dM d17 1 dN dS 1)) rfl k) ?_
  refine GoW.sg (mkF m 166 (Sh14 q1 q2 q3 q4 za zb dS dN d12 d13 b14 dM d17 1 dN dS 1) [(.int 1)]) (fun t k => XS.iload X16.here hx rfl (hb hby at_164) rfl k) ?_
  refine GoW.sg (mkF m 169 (Sh14 q1 q2 q3 q4 za zb dS dN d12 d13 b14 dM d17 1 dN dS 1) []) (fun t k => XS.ifNo X16.here hx rfl (hb hby at_166) rfl (by decide) k) ?_
  refine GoW.sg (mkF m 171 (Sh14 q1 q2 q3 q4 za zb dS dN d12 d13 b14 dM d17 1 dN dS 1) [(.int 1)]) (fun t k => XS.iload X16.here hx rfl (hb hby at_169) rfl k) ?_
  refine GoW.sg (mkF m 174 (Sh14 q1 q2 q3 q4 za zb dS dN d12 d13 b14 dM d17 1 dN dS 1) []) (fun t k => XS.ifNo X16.here hx rfl (hb hby at_171) rfl (by decide) k) ?_
  refine GoW.sg (mkF m 175 (Sh14 q1 q2 q3 q4 za zb dS dN d12 d13 b14 dM d17 1 dN dS 1) [(.int 1)]) (fun t k => XS.iconst X16.here hx rfl (hb hby at_174) k) ?_
  refine GoW.sg (mkF m 179 (Sh14 q1 q2 q3 q4 za zb dS dN d12 d13 b14 dM d17 1 dN dS 1) [(.int 1)]) (fun t k => XS.goto X16.here hx rfl (pc0 := 175) (pc' := 179) rfl (hb hby at_175) (by decide) (by decide) k) ?_
  refine GoW.retN X16 hx (t := .boolean) Bd.returns (by simp) (hb hby at_179) Bd.notSynchronized ?_ (by decide) (by decide)
  exact ⟨rfl, N16⟩

set_option maxRecDepth 65536 in
set_option maxHeartbeats 40000000 in
theorem comes_1 {Post : Tables → Env → Array Value → State → Outcome → State → Prop} (hpost : ∀ tb e args s v u, (limb_1_1.after args s (.returned v) u = true ∧ limb_1_2.after args s (.returned v) u = true ∧ True) → FrameEnd s (.returned v) u (Jvm.fieldLocs frame_1_writes args s ++ Jvm.arrayLocs frame_1_arrays args s ++ Jvm.staticLocs frame_1_statics s) 16 128 → Post tb e args s (.returned v) u) :
    ArmFor flags0 classFile x code maxLocals ret World_1 tables_1 room_1 Calls_1 rest_1 Pre_1 Post := by
  intro l hfl _ _ p e ha hc hk s m args below hf hA hF happ hP
  obtain ⟨hcalls, hrest, hpre⟩ := hP
  obtain ⟨-, -, -, hnamed, -, -, -, hat⟩ := (Spec.applies_iff hf).mp happ
  obtain ⟨hg, hn⟩ := and_e (Cond.before_iff.mp (show (Jvm.Cond.and given_1 narrow_1).before args s = true from hpre))
  obtain ⟨ga0, gb0⟩ := and_e hg
  obtain ⟨ga1, gb1⟩ := and_e gb0
  obtain ⟨ga2, gb2⟩ := and_e gb1
  obtain ⟨ga3, gb3⟩ := and_e gb2
  obtain ⟨w0, w1, w2, w3, rfl⟩ : ∃ w0 w1 w2 w3 : Value, args = #[w0, w1, w2, w3] := by
    have hs : args.size = 4 := by simpa [Cond.value, given_1] using ga0
    obtain ⟨L⟩ := args
    match L, hs with
    | [w0, w1, w2, w3], _ => exact ⟨w0, w1, w2, w3, rfl⟩
  have hw := fun d (hd : d ∈ tables_1) => atoms_spec (ws := Jvm.Cond.code x code maxLocals ret :: tables_1) hat d (List.mem_cons_of_mem _ hd)
  have hfit : Fit s := fun {y c} hc i hi => by
    obtain ⟨ha, rfl⟩ := Array.getElem?_eq_some_iff.mp hc
    have q := List.all_eq_true.mp ((Array.all_eq_true_iff_forall_mem.mp hF) _ (Array.getElem_mem ha)) i (List.mem_range.mpr hi)
    simpa [Array.getElem?_eq_getElem hi] using q
  obtain ⟨i0, ei0⟩ := is_v ga1
  obtain rfl : w0 = (.int i0) := Option.some.inj ei0
  obtain ⟨i1, ei1⟩ := is_v ga2
  obtain rfl : w1 = (.int i1) := Option.some.inj ei1
  obtain ⟨i2, ei2⟩ := is_v ga3
  obtain rfl : w2 = (.int i2) := Option.some.inj ei2
  obtain ⟨i3, ei3⟩ := is_v gb3
  obtain rfl : w3 = (.int i3) := Option.some.inj ei3
  obtain ⟨n, o, h1, h2, h3, v, L, rfl, ⟨hv, N⟩, hq⟩ := rm0 l s _ hw tables_1 i0 i1 i2 i3  s.heap s.heap.size (Nat.le_refl _)  p e ha hc hk s m _ below hf ((Spec.applies_iff_loose hf).mp happ).1 ⟨rfl, State.Warmed39.refl s, rfl⟩ trivial
  subst hv
  refine ⟨n, _, h1, h2, h3, hpost _ _ _ _ _ _ ⟨Cond.after_iff.mpr rfl, Cond.after_iff.mpr (eq_i res_at (Term.int_eval (1)) rfl), trivial⟩ ⟨hq.1, hq.2.1, (hq.2.2.sift fun y hy => Or.inr (N y hy)).mono (by decide) (by decide)⟩⟩
theorem main_1_1 : Claimed_1_1 := comes_1 fun _ _ _ _ _ _ h hF => ⟨h.1, hF⟩
theorem main_1_2 : Claimed_1_2 := comes_1 fun _ _ _ _ _ _ h hF => ⟨h.2.1, hF⟩
end Jvm.Pilot.@@N@@
namespace Jvm.Pilot.@@N@@
open Jvm Jvm.ClassFile Sem Op Lib Jvm.Free Jvm.Stand Jvm.Pilot.@@N@@.Jvm.D
/-! MADE BY PROGRAM (witnessworld.py) out of the Statement's table words and the real class files: 10 classes; the members and pool entries that the words name. The judged class is class 1, her method 1. -/
namespace start1
open Jvm.ClassFile
def u (s : String) : CpInfo := .utf8 (stringToUtf16 s)
/-- a pool by its gaps: so many unusable entries, then the entry; so many at the end -/
def gap : Nat → List CpInfo → List CpInfo
  | 0, r => r
  | n + 1, r => .unusable :: gap n r
def poolList (es : List (Nat × CpInfo)) (last : Nat) : List CpInfo := es.foldr (fun e r => gap e.1 (e.2 :: r)) (gap last [])
def pool (es : List (Nat × CpInfo)) (last : Nat) : Array CpInfo := ⟨poolList es last⟩
def fileOf (pool : Array CpInfo) (this : Nat) (attrs : Array Attribute := #[]) (ms : Array MethodInfo := #[]) (fl : Nat := 33) (sup : Nat := 0) (ifs : Array Nat := #[]) (fds : Array FieldInfo := #[]) : ClassFile where
  minorVersion := 0
  majorVersion := 65
  constantPool := pool
  accessFlags := fl
  thisClass := this
  superClass := sup
  interfaces := ifs
  fields := fds
  methods := ms
  attributes := attrs
def plain (name : String) (sup : Option ClassId) : Class where
  name := name
  kind := .ordinary
  loader := none
  accessFlags := 33
  super := sup
  interfaces := #[]
  cf := none
  fields := #[]
  methods := #[]
  instanceTypes := #[]
  staticTypes := #[]
  resolved := #[]
  callSites := []
  init := .initialized
  statics := none
  mirror := none

def pool0 : Array CpInfo := pool [(5, u "<init>"), (0, u "()V"), (1, .class_ 10), (1, u "java/lang/Object")] 113

def k0c0 : Code := { maxStack := 0, maxLocals := 1, code := object_method_1_code, exceptionTable := #[], attributes := #[] }
def k0m0 : Method := { name := "<init>", desc := "()V", sig := { parameters := [], returnType := none }, accessFlags := 1, code := some k0c0 }
/-- java/lang/Object -/
def k0 : Class := { plain "java/lang/Object" none with
  accessFlags := 33
  interfaces := #[]
  cf := some (fileOf pool0 8 #[] #[{ accessFlags := 1, nameIndex := 5, descriptorIndex := 6, attributes := #[] }] 33 0 #[] #[])
  fields := #[]
  methods := #[k0m0]
  instanceTypes := #[]
  staticTypes := #[]
  resolved := Array.replicate 124 none
  statics := none }

def pool1 : Array CpInfo := pool [(2, .class_ 4), (1, u "java/lang/Object"), (0, u "<init>"), (0, u "()V"), (0, .integer 2147483647), (0, .integer 184321), (0, .integer 92160), (0, .double 4652218415073722368), (1, .class_ 13), (0, u "com/example/saunter/saunter/geo/Bounds"), (0, .methodref 12 15), (0, .nameAndType 5 16), (0, u "(DDDD)V"), (0, .methodref 12 18), (0, .nameAndType 19 20), (0, u "middleLatitude"), (0, u "()D"), (0, .double 4656722014701092864), (1, .class_ 24), (0, u "com/example/saunter/saunter/geo/BoundsMiddleLatitudePinLaw"), (2, u "law"), (0, u "(IIII)Z")] 3

def k1m0 : Method := { name := "<init>", desc := "()V", sig := { parameters := [], returnType := none }, accessFlags := 2, code := none }
def k1c1 : Code := { maxStack := 10, maxLocals := 25, code := code, exceptionTable := #[], attributes := #[] }
def k1m1 : Method := { name := "law", desc := "(IIII)Z", sig := { parameters := [.int, .int, .int, .int], returnType := some .boolean }, accessFlags := 9, code := some k1c1 }
/-- com/example/saunter/saunter/geo/BoundsMiddleLatitudePinLaw -/
def k1 : Class := { plain "com/example/saunter/saunter/geo/BoundsMiddleLatitudePinLaw" (some 0) with
  accessFlags := 49
  interfaces := #[]
  cf := some (fileOf pool1 23 #[] #[{ accessFlags := 2, nameIndex := 5, descriptorIndex := 6, attributes := #[] }, { accessFlags := 9, nameIndex := 27, descriptorIndex := 28, attributes := #[] }] 49 2 #[] #[])
  fields := #[]
  methods := #[k1m0, k1m1]
  instanceTypes := #[]
  staticTypes := #[]
  resolved := Array.replicate 32 none
  statics := none }

def pool2 : Array CpInfo := pool [(1, .methodref 2 3), (0, .class_ 4), (0, .nameAndType 5 6), (0, u "java/lang/Object"), (0, u "<init>"), (0, u "()V"), (0, .class_ 8), (0, u "java/lang/Record")] 13

def k2c0 : Code := { maxStack := 1, maxLocals := 1, code := jdk_30_method_1_code, exceptionTable := #[], attributes := #[] }
def k2m0 : Method := { name := "<init>", desc := "()V", sig := { parameters := [], returnType := none }, accessFlags := 4, code := some k2c0 }
/-- java/lang/Record -/
def k2 : Class := { plain "java/lang/Record" (some 0) with
  accessFlags := 1057
  interfaces := #[]
  cf := some (fileOf pool2 7 #[] #[{ accessFlags := 4, nameIndex := 5, descriptorIndex := 6, attributes := #[] }] 1057 2 #[] #[])
  fields := #[]
  methods := #[k2m0]
  instanceTypes := #[]
  staticTypes := #[]
  resolved := Array.replicate 22 none
  statics := none }

def pool3 : Array CpInfo := pool [(1, .methodref 2 3), (0, .class_ 4), (0, .nameAndType 5 6), (0, u "java/lang/Record"), (0, u "<init>"), (0, u "()V"), (0, .fieldref 8 9), (0, .class_ 10), (0, .nameAndType 11 12), (0, u "com/example/saunter/saunter/geo/Bounds"), (0, u "south"), (0, u "D"), (0, .fieldref 8 14), (0, .nameAndType 15 12), (0, u "west"), (0, .fieldref 8 17), (0, .nameAndType 18 12), (0, u "north"), (0, .fieldref 8 20), (0, .nameAndType 21 12), (0, u "east"), (23, u "(DDDD)V"), (0, .double 4611686018427387904), (76, u "middleLatitude"), (0, u "()D")] 71

def k3c0 : Code := { maxStack := 3, maxLocals := 9, code := prog_2_method_1_code, exceptionTable := #[], attributes := #[] }
def k3m0 : Method := { name := "<init>", desc := "(DDDD)V", sig := { parameters := [.double, .double, .double, .double], returnType := none }, accessFlags := 1, code := some k3c0 }
def k3c1 : Code := { maxStack := 4, maxLocals := 1, code := prog_2_method_11_code, exceptionTable := #[], attributes := #[] }
def k3m1 : Method := { name := "middleLatitude", desc := "()D", sig := { parameters := [], returnType := some .double }, accessFlags := 1, code := some k3c1 }
/-- com/example/saunter/saunter/geo/Bounds -/
def k3 : Class := { plain "com/example/saunter/saunter/geo/Bounds" (some 2) with
  accessFlags := 49
  interfaces := #[]
  cf := some (fileOf pool3 8 #[] #[{ accessFlags := 1, nameIndex := 5, descriptorIndex := 45, attributes := #[] }, { accessFlags := 1, nameIndex := 123, descriptorIndex := 124, attributes := #[] }] 49 2 #[] #[{ accessFlags := 18, nameIndex := 11, descriptorIndex := 12, attributes := #[] }, { accessFlags := 18, nameIndex := 15, descriptorIndex := 12, attributes := #[] }, { accessFlags := 18, nameIndex := 18, descriptorIndex := 12, attributes := #[] }, { accessFlags := 18, nameIndex := 21, descriptorIndex := 12, attributes := #[] }])
  fields := #[{ name := "south", type := .double, accessFlags := 18, slot := 0, constantValue := 0 }, { name := "west", type := .double, accessFlags := 18, slot := 1, constantValue := 0 }, { name := "north", type := .double, accessFlags := 18, slot := 2, constantValue := 0 }, { name := "east", type := .double, accessFlags := 18, slot := 3, constantValue := 0 }]
  methods := #[k3m0, k3m1]
  instanceTypes := #[.double, .double, .double, .double]
  staticTypes := #[]
  resolved := Array.replicate 196 none
  statics := none }

def pool4 : Array CpInfo := pool [(1, u "java/lang/Cloneable"), (0, .class_ 1), (0, u "java/lang/Object"), (0, .class_ 3)] 3

/-- java/lang/Cloneable -/
def k4 : Class := { plain "java/lang/Cloneable" (some 0) with
  accessFlags := 1537
  interfaces := #[]
  cf := some (fileOf pool4 2 #[] #[] 1537 4 #[] #[])
  fields := #[]
  methods := #[]
  instanceTypes := #[]
  staticTypes := #[]
  resolved := Array.replicate 8 none
  statics := none }

def pool5 : Array CpInfo := pool [(1, u "java/io/Serializable"), (0, .class_ 1), (0, u "java/lang/Object"), (0, .class_ 3)] 3

/-- java/io/Serializable -/
def k5 : Class := { plain "java/io/Serializable" (some 0) with
  accessFlags := 1537
  interfaces := #[]
  cf := some (fileOf pool5 2 #[] #[] 1537 4 #[] #[])
  fields := #[]
  methods := #[]
  instanceTypes := #[]
  staticTypes := #[]
  resolved := Array.replicate 8 none
  statics := none }

/-- the primitive byte -/
def k6 : Class := { plain "byte" none with kind := .primitive 'B', accessFlags := 0x411 }
/-- [B -/
def k7 : Class := { plain "[B" (some 0) with kind := .array 6 .byte, interfaces := #[4, 5], accessFlags := 1041 }

/-- the primitive int -/
def k8 : Class := { plain "int" none with kind := .primitive 'I', accessFlags := 0x411 }
/-- [I -/
def k9 : Class := { plain "[I" (some 0) with kind := .array 8 .int, interfaces := #[4, 5], accessFlags := 1041 }

def heap : Heap := #[]
def classes : Array Class := #[k0, k1, k2, k3, k4, k5, k6, k7, k8, k9]
def interned : List (Array UInt16 × Addr) := []
def slotsUsed : Nat := 0
def theMethod : MethodId := ⟨1, 1⟩
def args0 : Array Value := #[.int 5, .int 7, .int 8, .int 9]
def aboutOver (below : List Frame) : State where
  vm := { classes := classes, interned := interned.toArray }
  heap := heap
  slotsUsed := slotsUsed
  threads := #[{ frames := .invoking theMethod args0 :: below }]
def below0 : List Frame := [.native { method := ⟨0, 0⟩, args := #[] }]
def about1 : State := aboutOver below0
def p0 : Program := .bare "" "" ""
def e0 : Env := launch0.env 0 0 0
theorem w_frames : about1.frames = Frame.invoking theMethod args0 :: below0 := rfl
set_option maxRecDepth 65536 in
theorem w_args : argsFit about1.vm theMethod args0 = true := by decide +kernel
set_option maxRecDepth 65536 in
theorem w_heap : heapFits about1 = true := by decide +kernel
set_option maxRecDepth 65536 in
theorem w_runnable : about1.curStatus? = some .runnable := by decide +kernel
set_option maxRecDepth 65536 in
theorem w_alone : about1.alone = true := by decide +kernel
set_option maxRecDepth 65536 in
theorem w_named : about1.methodNamed? x = some theMethod := by decide +kernel
set_option maxRecDepth 65536 in
theorem w_hears : about1.hears theMethod below0 = true := by decide +kernel
set_option maxRecDepth 65536 in
theorem w_ripe : about1.ripe theMethod args0 below0 = true := by decide +kernel
theorem w_running : about1.status = .running := rfl
set_option maxRecDepth 65536 in
theorem w_room : about1.hasRoom e0.platform room_1 = true :=
  launch0.hasRoom_least _ room_1 (by decide +kernel) (by decide +kernel) (by decide +kernel) (by decide +kernel) (by decide +kernel) (by decide +kernel)
theorem allAtoms_all (ts : List Jvm.Cond) (a : Array Jvm.Value) (st : Jvm.State) : (allAtoms ts).before a st = ts.all (fun c => c.before a st) := by
  induction ts with
  | nil => rfl
  | cons c t ih =>
    show (Jvm.Cond.and c (allAtoms t)).before a st = _
    rw [Jvm.Cond.before_and, ih, List.all_cons]
def words1 : List Jvm.Cond := Jvm.Cond.code x code maxLocals ret :: tables_1
/-- a 'code' word, met by the world's own term for the bytes: nothing is compared byte by byte -/
theorem code_word {y : MethodName} {bytes : ByteArray} {mx : Nat} {rt : Option FieldType} {a : Array Value} {s : State} {m : MethodId} {meth : Method} {c : Code} (h1 : s.methodNamed? y = some m) (h2 : s.vm.method? m = some meth) (h3 : meth.code = some c) (h4 : c.code = bytes)
    (h5 : (c.maxLocals == mx && c.exceptionTable.isEmpty && decide (c.maxStack ≤ mostOperands) && decide (meth.sig.returnType = rt) && !meth.locks && decide (parseMethodDescriptor y.desc = some meth.sig)) = true) : (Jvm.Cond.code y bytes mx rt).before a s = true := by
  simp only [Bool.and_eq_true, beq_iff_eq, Bool.not_eq_true', decide_eq_true_eq] at h5
  obtain ⟨⟨⟨⟨⟨g1, g2⟩, g3⟩, g4⟩, g5⟩, g6⟩ := h5
  simp [Cond.before, Cond.holds, Cond.value, h1, h2, h3, h4, g1, g2, g3, g4, g5, g6]
def isCode : Jvm.Cond → Bool
  | .code _ _ _ _ => true
  | _ => false
theorem all_split {L : List Jvm.Cond} {P : Jvm.Cond → Bool} (h1 : L.all (fun c => isCode c || P c) = true) (h2 : ∀ c ∈ L.filter isCode, P c = true) : L.all P = true := by
  refine List.all_eq_true.mpr fun c hc => ?_
  have h := List.all_eq_true.mp h1 c hc
  rcases Bool.eq_false_or_eq_true (isCode c) with hi | hi
  · exact h2 c (List.mem_filter.mpr ⟨hc, hi⟩)
  · simpa [hi] using h
set_option maxRecDepth 65536 in
theorem w_c0 : (Jvm.Cond.code x code maxLocals ret).before args0 about1 = true := code_word (m := ⟨1, 1⟩) (meth := k1m1) (c := k1c1) (by decide +kernel) rfl rfl rfl (by decide +kernel)
set_option maxRecDepth 65536 in
theorem w_c1 : (Jvm.Cond.code ({ cls := "com/example/saunter/saunter/geo/Bounds", name := "<init>", desc := "(DDDD)V" } : Jvm.MethodName) prog_2_method_1_code (9 : Nat) (Option.none : Option Jvm.ClassFile.FieldType)).before args0 about1 = true := code_word (m := ⟨3, 0⟩) (meth := k3m0) (c := k3c0) (by decide +kernel) rfl rfl rfl (by decide +kernel)
set_option maxRecDepth 65536 in
theorem w_c2 : (Jvm.Cond.code ({ cls := "java/lang/Record", name := "<init>", desc := "()V" } : Jvm.MethodName) jdk_30_method_1_code (1 : Nat) (Option.none : Option Jvm.ClassFile.FieldType)).before args0 about1 = true := code_word (m := ⟨2, 0⟩) (meth := k2m0) (c := k2c0) (by decide +kernel) rfl rfl rfl (by decide +kernel)
set_option maxRecDepth 65536 in
theorem w_c3 : (Jvm.Cond.code ({ cls := "java/lang/Object", name := "<init>", desc := "()V" } : Jvm.MethodName) object_method_1_code (1 : Nat) (Option.none : Option Jvm.ClassFile.FieldType)).before args0 about1 = true := code_word (m := ⟨0, 0⟩) (meth := k0m0) (c := k0c0) (by decide +kernel) rfl rfl rfl (by decide +kernel)
set_option maxRecDepth 65536 in
theorem w_c4 : (Jvm.Cond.code ({ cls := "com/example/saunter/saunter/geo/Bounds", name := "middleLatitude", desc := "()D" } : Jvm.MethodName) prog_2_method_11_code (1 : Nat) (Option.some Jvm.ClassFile.FieldType.double)).before args0 about1 = true := code_word (m := ⟨3, 1⟩) (meth := k3m1) (c := k3c1) (by decide +kernel) rfl rfl rfl (by decide +kernel)
def codes1 : List Jvm.Cond := [Jvm.Cond.code x code maxLocals ret, Jvm.Cond.code ({ cls := "com/example/saunter/saunter/geo/Bounds", name := "<init>", desc := "(DDDD)V" } : Jvm.MethodName) prog_2_method_1_code (9 : Nat) (Option.none : Option Jvm.ClassFile.FieldType), Jvm.Cond.code ({ cls := "java/lang/Record", name := "<init>", desc := "()V" } : Jvm.MethodName) jdk_30_method_1_code (1 : Nat) (Option.none : Option Jvm.ClassFile.FieldType), Jvm.Cond.code ({ cls := "java/lang/Object", name := "<init>", desc := "()V" } : Jvm.MethodName) object_method_1_code (1 : Nat) (Option.none : Option Jvm.ClassFile.FieldType), Jvm.Cond.code ({ cls := "com/example/saunter/saunter/geo/Bounds", name := "middleLatitude", desc := "()D" } : Jvm.MethodName) prog_2_method_11_code (1 : Nat) (Option.some Jvm.ClassFile.FieldType.double)]
set_option maxRecDepth 65536 in
theorem codes_eq : words1.filter isCode = codes1 := rfl
theorem w_codes : ∀ c ∈ words1.filter isCode, c.before args0 about1 = true := by
  rw [codes_eq]
  intro c hc
  simp only [codes1, List.mem_cons, List.not_mem_nil, or_false] at hc
  rcases hc with rfl | rfl | rfl | rfl | rfl
  · exact w_c0
  · exact w_c1
  · exact w_c2
  · exact w_c3
  · exact w_c4
set_option maxRecDepth 65536 in
theorem w_t1 : (words1.take 24).all (fun c => isCode c || c.before args0 about1) = true := by decide +kernel
set_option maxRecDepth 65536 in
theorem w_t2 : (words1.drop 24).all (fun c => isCode c || c.before args0 about1) = true := by decide +kernel
theorem w_tables : (allAtoms (Jvm.Cond.code x code maxLocals ret :: tables_1)).before args0 about1 = true := by
  rw [allAtoms_all]
  show words1.all (fun c => c.before args0 about1) = true
  refine all_split ?_ w_codes
  rw [← List.take_append_drop 24 words1, List.all_append, w_t1, w_t2]
  rfl
set_option maxRecDepth 65536 in
theorem w_case : (Jvm.Cond.and given_1 narrow_1).before args0 about1 = true := by decide +kernel
theorem w_applies : (headSpec (Jvm.Cond.code x code maxLocals ret :: tables_1) room_1).applies x e0.platform about1 = true :=
  (Spec.applies_iff w_frames).mpr ⟨w_running, w_runnable, w_alone, w_named, w_hears, w_ripe, w_room, w_tables⟩
theorem atStart : AtStart classFile x code maxLocals ret World_1 tables_1 room_1 Calls_1 rest_1 Pre_1 launch0 p0 e0 about1 theMethod args0 below0 :=
  ⟨lists_1, trivial, launch0.admits_env _ _ _, launch0.least_env, fairChoices_fair.cas, fairChoices_fair.clock, w_frames, w_args, w_heap, w_applies, trivial, trivial, w_case⟩
end start1
theorem witness_1 : WitnessClaimed_1 := ⟨start1.p0, start1.e0, start1.about1, start1.theMethod, start1.args0, start1.below0, start1.atStart⟩
end Jvm.Pilot.@@N@@
