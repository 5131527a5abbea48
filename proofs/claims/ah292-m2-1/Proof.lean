import JvmDerived
import JvmDerived.Pilot.@@N@@Statement
import JvmDerived.Pilot.@@N@@Code
set_option linter.unusedVariables false
set_option linter.unusedSimpArgs false
namespace Jvm.RoadKit
open Sem ClassFile Op Lib Jvm.Stand Jvm.Free Jvm.LawKit
def GoW (p : Program) (e : Env) (below : List Frame) (s : State) (Q : Option Value → Heap → List Loc → Prop) (k n : Nat) (u : State) : Prop :=
  ∃ s₂ o, Steps p.tables e below u s₂ ∧ s₂.status = .running ∧ Ended s₂ below o ∧ ∃ v L, o = .returned v ∧ Q v s₂.heap L ∧ FrameEnd s o s₂ L k n
def PureQ (r : Value) (h0 : Heap) (n0 : Nat) (v : Option Value) (h : Heap) (L : List Loc) : Prop := v = some r ∧ Fr n0 L ∧ h = h0
def ValQ (r : Value) (n0 : Nat) (v : Option Value) (h : Heap) (L : List Loc) : Prop := v = some r ∧ Fr n0 L
section New
variable {p : Program} {l : Launch} {e : Env} {R : Room} {s : State} {m : MethodId} {args : Array Value} {below : List Frame} {meth : Method} {c : Code} {T : State} {locs : List Loc} {cells slots : Nat} {Q : Option Value → Heap → List Loc → Prop} {k n : Nat} {u v : State}
theorem GoW.mk (h : GoW p e below s Q k n u) : ∃ s₂ o, Steps p.tables e below u s₂ ∧ s₂.status = .running ∧ Ended s₂ below o ∧ ∃ v L, o = .returned v ∧ Q v s₂.heap L ∧ FrameEnd s o s₂ L k n := h
theorem GoW.st (h : ∀ t, Steps p.tables e below u t → Steps p.tables e below v t) (q : GoW p e below s Q k n u) : GoW p e below s Q k n v := by
  obtain ⟨s₂, o, h1, h2⟩ := q; exact ⟨s₂, o, h _ h1, h2⟩
theorem GoW.sg {T' : State} (g' : JFrame) (h : ∀ t, Steps p.tables e below (T'.setTop g') t → Steps p.tables e below v t) (q : GoW p e below s Q k n (T'.setTop g')) : GoW p e below s Q k n v := GoW.st h q
theorem retI (X : Stand p l e R s m args below meth c T locs cells slots) (hx : p.tables.exec = Jvm.exec) {pc : Nat} {Ls : Array Slot} {z : Int32} {rest : List Value} (hret : meth.sig.returnType = some .int) (hd : decode c.code pc = .ok (.ireturn, 1)) {fs : List Frame}
    (hl : ∀ (f : JFrame) (acts : List Action), f.method = m → f.locked = none → f.entered = [] → (doReturn e (T.setTop f) acts (some (.int z))).1 = T.setFrames fs) : Steps p.tables e below (T.setTop (mkF m pc Ls (.int z :: rest))) (T.setFrames fs) := by
  have hm' : T.vm.method? m = some meth := X.method'
  have hn : narrow .int (.int z) = .int z := rfl
  show Steps p.tables e below (T.setTop { method := m, pc := pc, locals := Ls, stack := _ :: rest, locked := none }) _
  jvm_step X.here [X.here.top, hx, hd, hm', hret, hn]
  first | (intro acts; rw [hl _ acts rfl rfl rfl]) | rw [hl _ _ rfl rfl rfl]
  exact Steps.refl _
theorem GoW.retN (X : Stand p l e R s m args below meth c T locs cells slots) (hx : p.tables.exec = Jvm.exec) {pc : Nat} {Ls : Array Slot} {z : Int32} {t : FieldType} {rest : List Value} (hret : meth.sig.returnType = some t) (ht : t = .boolean ∨ t = .byte ∨ t = .char ∨ t = .short)
    (hd : decode c.code pc = .ok (.ireturn, 1)) (hlk : meth.locks = false) (hq : Q (some (.int (nar t z))) T.heap locs) (hk : cells ≤ k) (hn : slots ≤ n) : GoW p e below s Q k n (T.setTop (mkF m pc Ls (.int z :: rest))) := by
  obtain ⟨fs, hr, hrun, hended, hW, hsame⟩ := X.leave (v := some (.int (nar t z))) (fun h => by rw [hret] at h; cases h) hlk
  exact ⟨_, _, Jvm.RoadKit.retN X hx hret ht hd hr, hrun, hended, _, _, rfl, hq, ⟨_, rfl⟩, hW, hsame.mono hk hn⟩
theorem GoW.retI (X : Stand p l e R s m args below meth c T locs cells slots) (hx : p.tables.exec = Jvm.exec) {pc : Nat} {Ls : Array Slot} {z : Int32} {rest : List Value} (hret : meth.sig.returnType = some .int)
    (hd : decode c.code pc = .ok (.ireturn, 1)) (hlk : meth.locks = false) (hq : Q (some (.int z)) T.heap locs) (hk : cells ≤ k) (hn : slots ≤ n) : GoW p e below s Q k n (T.setTop (mkF m pc Ls (.int z :: rest))) := by
  obtain ⟨fs, hr, hrun, hended, hW, hsame⟩ := X.leave (v := some (.int z)) (fun h => by rw [hret] at h; cases h) hlk
  exact ⟨_, _, Jvm.RoadKit.retI X hx hret hd hr, hrun, hended, _, _, rfl, hq, ⟨_, rfl⟩, hW, hsame.mono hk hn⟩
theorem GoW.retL (X : Stand p l e R s m args below meth c T locs cells slots) (hx : p.tables.exec = Jvm.exec) {pc : Nat} {Ls : Array Slot} {z : Int64} {rest : List Value} (hret : meth.sig.returnType = some .long)
    (hd : decode c.code pc = .ok (.lreturn, 1)) (hlk : meth.locks = false) (hq : Q (some (.long z)) T.heap locs) (hk : cells ≤ k) (hn : slots ≤ n) : GoW p e below s Q k n (T.setTop (mkF m pc Ls (.long z :: rest))) := by
  obtain ⟨fs, hr, hrun, hended, hW, hsame⟩ := X.leave (v := some (.long z)) (fun h => by rw [hret] at h; cases h) hlk
  exact ⟨_, _, retOut X hx hret rfl (Or.inr (Or.inl ⟨rfl, rfl, z, rfl⟩)) hd hr, hrun, hended, _, _, rfl, hq, ⟨_, rfl⟩, hW, hsame.mono hk hn⟩
theorem GoW.retA (X : Stand p l e R s m args below meth c T locs cells slots) (hx : p.tables.exec = Jvm.exec) {pc : Nat} {Ls : Array Slot} {w : Value} {t : FieldType} {rest : List Value} (hret : meth.sig.returnType = some t) (hw : w.isRef = true) (ht : t.isReference = true)
    (hn' : narrow t w = w) (hd : decode c.code pc = .ok (.areturn, 1)) (hlk : meth.locks = false) (hq : Q (some w) T.heap locs) (hk : cells ≤ k) (hn : slots ≤ n) : GoW p e below s Q k n (T.setTop (mkF m pc Ls (w :: rest))) := by
  obtain ⟨fs, hr, hrun, hended, hW, hsame⟩ := X.leave (v := some w) (fun h => by rw [hret] at h; cases h) hlk
  exact ⟨_, _, retOut X hx hret hn' (Or.inr (Or.inr (Or.inr (Or.inr ⟨rfl, ht, hw⟩)))) hd hr, hrun, hended, _, _, rfl, hq, ⟨_, rfl⟩, hW, hsame.mono hk hn⟩
theorem GoW.retV (X : Stand p l e R s m args below meth c T locs cells slots) (hx : p.tables.exec = Jvm.exec) {pc : Nat} {Ls : Array Slot} (hret : meth.sig.returnType = none)
    (hd : decode c.code pc = .ok (.return_, 1)) (hlk : meth.locks = false) (hq : Q none T.heap locs) (hk : cells ≤ k) (hn : slots ≤ n) : GoW p e below s Q k n (T.setTop (mkF m pc Ls [])) := by
  obtain ⟨fs, hr, hrun, hended, hW, hsame⟩ := X.leave (v := none) (fun _ => rfl) hlk
  exact ⟨_, _, X.returnOut hx hret hd hr, hrun, hended, _, _, rfl, hq, ⟨_, rfl⟩, hW, hsame.mono hk hn⟩
theorem hq_ {T : State} {h : Heap} {a : Addr} {c : Cell} (e : T.heap = h) (q : h[a]? = some c) : T.heap[a]? = some c := by rw [e]; exact q
theorem own_b53 (x : Int32) : B53 x.toInt64 := by
  have h := rng32 x
  unfold B53; rw [Int32.toInt_toInt64]; omega
theorem own_eqI {args : Array Value} {first s : State} {o : Option Outcome} {idx : List Nat} {t : Term} {i : Int32} (h : (Jvm.Cond.eq t (.int i)).value args first o s idx = some true) : t.eval args first o idx s = some (.int i) := by
  obtain ⟨x, y, hx, hy, k1, k2⟩ := cmp_v (Or.inl h)
  rw [Term.int_eval] at hy
  cases hy
  obtain ⟨z, rfl⟩ := k2
  have q := gotT (Cond.eq_ints hx (Term.int_eval i)) h
  rw [hx, q]
theorem own_ne {args : Array Value} {first s : State} {o : Option Outcome} {idx : List Nat} {t u : Term} {C n d : String} {i j : Int32} {a b : Addr} (h1 : (Jvm.Cond.eq (.field t C n d) (.int i)).value args first o s idx = some true) (h2 : (Jvm.Cond.eq (.field u C n d) (.int j)).value args first o s idx = some true)
    (ha : t.eval args first o idx s = some (.ref a)) (hb : u.eval args first o idx s = some (.ref b)) (hij : i ≠ j) : a ≠ b := fun e => by
  subst e
  have q1 := own_eqI h1
  have q2 := own_eqI h2
  rw [fld_at ha] at q1
  rw [fld_at hb, q1] at q2
  exact hij (by cases q2; rfl)
theorem own_staK0 {Z : State} {h h' : Heap} {C n d : String} {v : Value} (F : Sta Z h C n d v) (K : Keep h h' []) : Sta Z h' C n d v := by
  obtain ⟨cf, i, k, f, st, cell, h1, h2, h3, h4, h5, r⟩ := F; exact ⟨cf, i, k, f, st, cell, h1, h2, h3, h4, K.2.1 _ _ h5 nin0, r⟩
def NSt (h : Heap) (a : Addr) : Prop := ∀ c : Cell, h[a]? = some c → c.vm.isStatics = false
theorem own_nsE {Z : State} {h : Heap} {a : Addr} {C : String} (E : Exa Z h a C) : NSt h a := fun c hc => by
  obtain ⟨cell2, k2, g1, -, -, g2, -⟩ := E
  cases hc.symm.trans g1
  exact g2
theorem own_nsA {Z : State} {h : Heap} {a : Addr} {k : ClassId} {ty : FieldType} {z : Int32} {vs : List Value} {dv : Value} (A : Arv Z h a k ty z vs dv) : NSt h a := fun c hc => by
  obtain ⟨cl, A, -⟩ := A
  cases hc.symm.trans A.1
  exact A.plain
theorem own_staK {Z : State} {h h' : Heap} {C n d : String} {v : Value} {ws : List Addr} (F : Sta Z h C n d v) (K : Keep h h' ws) (E : ∀ x ∈ ws, NSt h x) : Sta Z h' C n d v := by
  obtain ⟨cf, i, k, f, st, cell, h1, h2, h3, h4, h5, h6, r⟩ := F
  refine ⟨cf, i, k, f, st, cell, h1, h2, h3, h4, K.2.1 _ _ h5 (fun q => ?_), h6, r⟩
  have := E st q cell h5
  rw [h6] at this; cases this
theorem GoW.retD (X : Stand p l e R s m args below meth c T locs cells slots) (hx : p.tables.exec = Jvm.exec) {pc : Nat} {Ls : Array Slot} {z : UInt64} {rest : List Value} (hret : meth.sig.returnType = some .double)
    (hd : decode c.code pc = .ok (.dreturn, 1)) (hlk : meth.locks = false) (hq : Q (some (.double z)) T.heap locs) (hk : cells ≤ k) (hn : slots ≤ n) : GoW p e below s Q k n (T.setTop (mkF m pc Ls (.double z :: rest))) := by
  obtain ⟨fs, hr, hrun, hended, hW, hsame⟩ := X.leave (v := some (.double z)) (fun h => by rw [hret] at h; cases h) hlk
  exact ⟨_, _, retOut X hx hret rfl (Or.inr (Or.inr (Or.inl ⟨rfl, rfl, z, rfl⟩))) hd hr, hrun, hended, _, _, rfl, hq, ⟨_, rfl⟩, hW, hsame.mono hk hn⟩
theorem own_pop2L {tb : Tables} [Ours tb] {e : Env} {below : List Frame} {T target : State} {m : MethodId} {c : Code} {g : JFrame} (h : At T m c below) (hx : tb.exec = Jvm.exec) (hg : g.method = m) {x : Int64} {rest : List Value} (hd : decode c.code g.pc = .ok (.pop2, 1)) (hs : g.stack = .long x :: rest)
    (hr : Steps tb e below (T.setTop { g with pc := g.pc + 1, stack := rest }) target) : Steps tb e below (T.setTop g) target := by
  subst hg
  jvm_step h [h.top, hx, hd, hs, Value.category]
  exact hr
theorem own_callS {Z : State} {a0 : Array Value} {h : Heap} (X : Stand p l e R s m args below meth c T locs cells slots) (hx : p.tables.exec = Jvm.exec) (hZ : Z.Warmed39 s.vm) {own : String} {index : Nat} {y : MethodName} {bytes : ByteArray} {maxL : Nat} {ret : Option FieldType}
    (hown : s.vm.findClass own = some m.cls) (w1 : (Jvm.Cond.methodLink own index y).before a0 Z = true) (w2 : (Jvm.Cond.static y).before a0 Z = true) (w3 : (Jvm.Cond.initialized y.cls).before a0 Z = true) (w4 : (Jvm.Cond.code y bytes maxL ret).before a0 Z = true)
    (hy : y.cls ≠ "java/lang/invoke/MethodHandle" ∧ y.cls ≠ "java/lang/invoke/VarHandle") (W : Nat) {rm : Room} {argsL rest : List Value} {Q : Option Value → Heap → List Loc → Prop}
    (hM : MetFree l y (head1 [Jvm.Cond.code y bytes maxL ret] rm) (fun a U => a = argsL.toArray ∧ Z.Warmed39 U.vm ∧ U.heap = h) (fun _ _ _ _ _ => True) (fun _ U o U' => ∃ v L, o = .returned v ∧ Q v U'.heap L ∧ FrameEnd U o U' L rm.cells rm.slots))
    (hf : rm.frames + 1 ≤ R.frames) (hl : W + (maxL + 11) + rm.locals ≤ R.locals) (eT : T.heap = h) (hc : cells + rm.cells ≤ R.cells) (hs : slots + rm.slots ≤ R.slots)
    {g : JFrame} (hg : g.method = m) (hsize : g.locals.size = c.maxLocals) (hlen : ∀ sig, parseMethodDescriptor y.desc = some sig → argsL.length = sig.parameters.length)
    (hstack : g.stack = argsL.reverse ++ rest) (hW : 2 * g.monitorRoom + (rest.map fun v => v.category).sum ≤ W) (hdg : decode c.code g.pc = .ok (.invokestatic index, 3)) :
    ∃ (v : Option Value) (T' : State) (L : List Loc), Stand p l e R s m args below meth c T' (locs ++ L) (cells + rm.cells) (slots + rm.slots) ∧ Q v T'.heap L ∧
      ∀ target, Steps p.tables e below (T'.setTop { g with pc := g.pc + 3, stack := v.toList ++ rest }) target → Steps p.tables e below (T.setTop g) target := by
  obtain ⟨v, _, ⟨T', L', k', n'⟩, -, X', ⟨Lc, hQ, l', y', z'⟩, st⟩ := Jvm.LawKit.callS X hx (y := y) hown (mvT hZ w1) (mvT hZ w2) (mvT hZ w3) (mvT hZ w4) hy (backOf (W := W) hM hZ w4 w3 hf hl) (g := g) hg hsize (argsL := argsL) (rest := rest) hlen hstack hW hdg (fun _ _ => ⟨rfl, eT, hc, hs⟩)
  dsimp only [Pt.U, Pt.locs, Pt.cells, Pt.slots] at X' l' y' z' st hQ
  subst l' y' z'
  exact ⟨v, T', Lc, X', hQ, st⟩
abbrev MM (l : Launch) (Z : State) (y : MethodName) (code : ByteArray) (ml : Nat) (ret : Option FieldType) (fr ce sl lo : Nat) (argv : Array Value) (h0 : Heap) (Q : Option Value → Heap → List Loc → Prop) : Prop :=
  MetFree l y (head1 [Jvm.Cond.code y code ml ret] { frames := fr, cells := ce, slots := sl, locals := lo }) (fun a U => a = argv ∧ Z.Warmed39 U.vm ∧ U.heap = h0) (fun _ _ _ _ _ => True) (fun _ U o U' => ∃ v L, o = .returned v ∧ Q v U'.heap L ∧ FrameEnd U o U' L ce sl)
theorem own_start {Z : State} {y : MethodName} {code : ByteArray} {ml : Nat} {ret : Option FieldType} {fr ce sl lo : Nat} {argv : Array Value} {h0 : Heap} {Q : Option Value → Heap → List Loc → Prop} (F : MethodId → JFrame) (hpl : plainFor y = true) (ef : ∀ m, entryFrame m argv ml = F m) (n0 : Nat)
    (H : ∀ p e s m below meth c s₁, BodyLoose p l y (head1 [Jvm.Cond.code y code ml ret] { frames := fr, cells := ce, slots := sl, locals := lo }) code ml ret e s m argv below meth c s₁ → p.tables.exec = Jvm.exec → (∀ {pc : Nat} {r : Except ClassFile.DecodeError (ClassFile.Instr × Nat)}, ClassFile.decode code pc = r → ClassFile.decode c.code pc = r) → c.maxLocals = ml → Z.Warmed39 s.vm → s.vm.findClass y.cls = some m.cls → meth.name = y.name →
      Stand p l e { frames := fr, cells := ce, slots := sl, locals := lo } s m argv below meth c s₁ [] 0 0 → s₁.heap = h0 → Fr n0 [] → GoW p e below s Q ce sl (s₁.setTop (F m))) : MM l Z y code ml ret fr ce sl lo argv h0 Q := by
  refine MetFree.of_bodySF hpl hisR ?_
  intro p e s m args below meth c s₁ Bd hml hP hK
  obtain ⟨rfl, hZ, hh⟩ := hP
  refine GoW.mk (GoW.st (fun t k => castTop (ef m) k) ?_)
  exact H p e s m below meth c s₁ Bd Bd.exec (fun h => hb Bd.bytes h) hml hZ (findClass_of_methodNamed Bd.named) (name_of_methodNamed Bd.named Bd.method).1 (Stand.of_body Bd) (by rw [← hh, Bd.state]; rfl) (Fr.nil n0)
theorem own_virt {Z : State} {a0 : Array Value} {h : Heap} (X : Stand p l e R s m args below meth c T locs cells slots) (hx : p.tables.exec = Jvm.exec) (hZ : Z.Warmed39 s.vm) {own C : String} {index : Nat} {y : MethodName} {bytes : ByteArray} {maxL : Nat} {ret : Option FieldType}
    (hown : s.vm.findClass own = some m.cls) (w1 : (Jvm.Cond.methodLink own index y).before a0 Z = true) (w2 : (Jvm.Cond.declares y).before a0 Z = true) (w3 : (Jvm.Cond.selects C y y).before a0 Z = true) (w4 : (Jvm.Cond.instanceMethod y).before a0 Z = true) (w5 : (Jvm.Cond.code y bytes maxL ret).before a0 Z = true) (w6 : (Jvm.Cond.initialized y.cls).before a0 Z = true)
    (hy : y.cls ≠ "java/lang/invoke/MethodHandle" ∧ y.cls ≠ "java/lang/invoke/VarHandle") (W : Nat) {rm : Room} {a : Addr} {argsL rest : List Value} {Q : Option Value → Heap → List Loc → Prop}
    (hM : MetFree l y (head1 [Jvm.Cond.code y bytes maxL ret] rm) (fun a' U => a' = (Value.ref a :: argsL).toArray ∧ Z.Warmed39 U.vm ∧ U.heap = h) (fun _ _ _ _ _ => True) (fun _ U o U' => ∃ v L, o = .returned v ∧ Q v U'.heap L ∧ FrameEnd U o U' L rm.cells rm.slots))
    (hf : rm.frames + 1 ≤ R.frames) (hl : W + (maxL + 11) + rm.locals ≤ R.locals) (eT : T.heap = h) (E : Exa Z h a C) (hc : cells + rm.cells ≤ R.cells) (hs : slots + rm.slots ≤ R.slots)
    {g : JFrame} (hg : g.method = m) (hsize : g.locals.size = c.maxLocals) (hlen : ∀ sig, parseMethodDescriptor y.desc = some sig → argsL.length = sig.parameters.length)
    (hstack : g.stack = argsL.reverse ++ .ref a :: rest) (hW : 2 * g.monitorRoom + (rest.map fun v => v.category).sum ≤ W) (hdg : decode c.code g.pc = .ok (.invokevirtual index, 3)) :
    ∃ (v : Option Value) (T' : State) (L : List Loc), Stand p l e R s m args below meth c T' (locs ++ L) (cells + rm.cells) (slots + rm.slots) ∧ Q v T'.heap L ∧
      ∀ target, Steps p.tables e below (T'.setTop { g with pc := g.pc + 3, stack := v.toList ++ rest }) target → Steps p.tables e below (T.setTop g) target := by
  obtain ⟨cq, kq, qa, qb, qc⟩ := isOf hZ eT E
  obtain ⟨v, _, ⟨T', L', k', n'⟩, -, X', ⟨Lc, hQ, l', y', z'⟩, st⟩ := X.virtualBack hx (y := y) (z := y) hown (mvT hZ w1) (mvT hZ w2) (notFace_of_selects (args := #[]) (mvT hZ w3)) (mvT hZ w3) (mvT hZ w4) hy (backOf (W := W) hM hZ w5 w6 hf hl) qa qc (g := g) hg hsize (Steps.refl _) (argsL := argsL) (rest := rest) hlen hstack hW hdg (fun _ _ => ⟨rfl, eT, hc, hs⟩)
  dsimp only [Pt.U, Pt.locs, Pt.cells, Pt.slots] at X' l' y' z' st hQ
  subst l' y' z'
  exact ⟨v, T', Lc, X', hQ, fun t k => st.trans k⟩
theorem own_priv {Z : State} {a0 : Array Value} {h : Heap} (X : Stand p l e R s m args below meth c T locs cells slots) (hx : p.tables.exec = Jvm.exec) (hZ : Z.Warmed39 s.vm) {own C : String} {index : Nat} {y : MethodName} {nI : Nat} {bytes : ByteArray} {maxL : Nat} {ret : Option FieldType}
    (hown : s.vm.findClass own = some m.cls) (w1 : (Jvm.Cond.methodLink own index y).before a0 Z = true) (w2 : (Jvm.Cond.privateMethod y).before a0 Z = true) (w3 : (Jvm.Cond.instantiable y.cls nI).before a0 Z = true) (w4 : (Jvm.Cond.instanceMethod y).before a0 Z = true) (w5 : (Jvm.Cond.code y bytes maxL ret).before a0 Z = true) (w6 : (Jvm.Cond.initialized y.cls).before a0 Z = true)
    (hy : y.cls ≠ "java/lang/invoke/MethodHandle" ∧ y.cls ≠ "java/lang/invoke/VarHandle") (W : Nat) {rm : Room} {a : Addr} {argsL rest : List Value} {Q : Option Value → Heap → List Loc → Prop}
    (hM : MetFree l y (head1 [Jvm.Cond.code y bytes maxL ret] rm) (fun a' U => a' = (Value.ref a :: argsL).toArray ∧ Z.Warmed39 U.vm ∧ U.heap = h) (fun _ _ _ _ _ => True) (fun _ U o U' => ∃ v L, o = .returned v ∧ Q v U'.heap L ∧ FrameEnd U o U' L rm.cells rm.slots))
    (hf : rm.frames + 1 ≤ R.frames) (hl : W + (maxL + 11) + rm.locals ≤ R.locals) (eT : T.heap = h) (E : Exa Z h a C) (hc : cells + rm.cells ≤ R.cells) (hs : slots + rm.slots ≤ R.slots)
    {g : JFrame} (hg : g.method = m) (hsize : g.locals.size = c.maxLocals) (hlen : ∀ sig, parseMethodDescriptor y.desc = some sig → argsL.length = sig.parameters.length)
    (hstack : g.stack = argsL.reverse ++ .ref a :: rest) (hW : 2 * g.monitorRoom + (rest.map fun v => v.category).sum ≤ W) (hdg : decode c.code g.pc = .ok (.invokevirtual index, 3)) :
    ∃ (v : Option Value) (T' : State) (L : List Loc), Stand p l e R s m args below meth c T' (locs ++ L) (cells + rm.cells) (slots + rm.slots) ∧ Q v T'.heap L ∧
      ∀ target, Steps p.tables e below (T'.setTop { g with pc := g.pc + 3, stack := v.toList ++ rest }) target → Steps p.tables e below (T.setTop g) target := by
  obtain ⟨cq, kq, qa, qb, qc⟩ := isOf hZ eT E
  obtain ⟨cell, hcell, hcls, hst⟩ := qc
  obtain ⟨c0, k0, hc0, hk0, -, hni, -, -⟩ := Cond.instantiable_spec (mvT (args := args) hZ w3)
  have hsel := selects_self_of_private hc0 hk0 (Bool.or_eq_false_iff.mp hni).1 (Cond.privateMethod_at (mvT (args := args) hZ w2)) (mvT (args := args) hZ w4) hy
  obtain ⟨v, _, ⟨T', L', k', n'⟩, -, X', ⟨Lc, hQ, l', y', z'⟩, st⟩ := X.privateBack hx (y := y) hown (mvT hZ w1) (mvT hZ w4) hsel (Cond.privateMethod_at (mvT (args := args) hZ w2)) (mvT hZ w5) hy (backOf (W := W) hM hZ w5 w6 hf hl) (g := g) hg hsize (Steps.refl _) hcell (fun q e => by rw [e] at hst; cases hst) (argsL := argsL) (rest := rest) hlen hstack hW hdg (fun _ _ => ⟨rfl, eT, hc, hs⟩)
  dsimp only [Pt.U, Pt.locs, Pt.cells, Pt.slots] at X' l' y' z' st hQ
  subst l' y' z'
  exact ⟨v, T', Lc, X', hQ, fun t k => st.trans k⟩
theorem own_spec {Z : State} {a0 : Array Value} {h : Heap} (X : Stand p l e R s m args below meth c T locs cells slots) (hx : p.tables.exec = Jvm.exec) (hZ : Z.Warmed39 s.vm) {own : String} {index : Nat} {y : MethodName} {bytes : ByteArray} {maxL : Nat} (hy1 : y.name = "<init>")
    (hown : s.vm.findClass own = some m.cls) (w1 : (Jvm.Cond.methodLink own index y).before a0 Z = true) (w2 : (Jvm.Cond.instanceMethod y).before a0 Z = true) (w3 : (Jvm.Cond.initialized y.cls).before a0 Z = true) (w4 : (Jvm.Cond.code y bytes maxL none).before a0 Z = true)
    (hy : y.cls ≠ "java/lang/invoke/MethodHandle" ∧ y.cls ≠ "java/lang/invoke/VarHandle") (W : Nat) {rm : Room} {a : Addr} {argsL rest : List Value} {Q : Option Value → Heap → List Loc → Prop}
    (hM : MetFree l y (head1 [Jvm.Cond.code y bytes maxL none] rm) (fun a' U => a' = (Value.ref a :: argsL).toArray ∧ Z.Warmed39 U.vm ∧ U.heap = h) (fun _ _ _ _ _ => True) (fun _ U o U' => ∃ v L, o = .returned v ∧ Q v U'.heap L ∧ FrameEnd U o U' L rm.cells rm.slots))
    (hf : rm.frames + 1 ≤ R.frames) (hl : W + (maxL + 11) + rm.locals ≤ R.locals) (eT : T.heap = h) (hc : cells + rm.cells ≤ R.cells) (hs : slots + rm.slots ≤ R.slots)
    {g : JFrame} (hg : g.method = m) (hsize : g.locals.size = c.maxLocals) (hlen : ∀ sig, parseMethodDescriptor y.desc = some sig → argsL.length = sig.parameters.length)
    (hstack : g.stack = argsL.reverse ++ .ref a :: rest) (hW : 2 * g.monitorRoom + (rest.map fun v => v.category).sum ≤ W) (hdg : decode c.code g.pc = .ok (.invokespecial index, 3)) :
    ∃ (v : Option Value) (T' : State) (L : List Loc), Stand p l e R s m args below meth c T' (locs ++ L) (cells + rm.cells) (slots + rm.slots) ∧ Q v T'.heap L ∧
      ∀ target, Steps p.tables e below (T'.setTop { g with pc := g.pc + 3, stack := v.toList ++ rest }) target → Steps p.tables e below (T.setTop g) target := by
  obtain ⟨v, _, ⟨T', L', k', n'⟩, -, X', ⟨Lc, hQ, l', y', z'⟩, st⟩ := X.specialBack hx (y := y) hy1 hown (mvT hZ w1) (mvT hZ w2) (mvT hZ w4) hy (backOf (W := W) hM hZ w4 w3 hf hl) (g := g) hg hsize (Steps.refl _) (a := a) (argsL := argsL) (rest := rest) hlen hstack hW hdg (fun _ _ => ⟨rfl, eT, hc, hs⟩)
  dsimp only [Pt.U, Pt.locs, Pt.cells, Pt.slots] at X' l' y' z' st hQ
  subst l' y' z'
  exact ⟨v, T', Lc, X', hQ, fun t k => st.trans k⟩
def GoV (p : Program) (e : Env) (below : List Frame) (s : State) (Q : Option Value → Heap → List Loc → Prop) (k n : Nat) (u : State) : Prop :=
  ∃ s₂ o, Steps p.tables e below u s₂ ∧ s₂.status = .running ∧ Ended s₂ below o ∧ ∃ v L, o = .returned v ∧ Q v s₂.heap L ∧ ReturnedEndW s o s₂ L k n
theorem GoV.mk (h : GoV p e below s Q k n u) : ∃ s₂ o, Steps p.tables e below u s₂ ∧ s₂.status = .running ∧ Ended s₂ below o ∧ ∃ v L, o = .returned v ∧ Q v s₂.heap L ∧ ReturnedEndW s o s₂ L k n := h
theorem GoV.st (h : ∀ t, Steps p.tables e below u t → Steps p.tables e below v t) (q : GoV p e below s Q k n u) : GoV p e below s Q k n v := by
  obtain ⟨s₂, o, h1, h2⟩ := q; exact ⟨s₂, o, h _ h1, h2⟩
theorem GoV.sg {T' : State} (g' : JFrame) (h : ∀ t, Steps p.tables e below (T'.setTop g') t → Steps p.tables e below v t) (q : GoV p e below s Q k n (T'.setTop g')) : GoV p e below s Q k n v := GoV.st h q
theorem GoV.retN {vm1 : Vm} {n1 : Nat} (X : Stand p l e R (s.setVm vm1) m args below meth c T locs cells slots) (hS : s.Since vm1 n1) (h1 : n1 ≤ T.heap.size) (hx : p.tables.exec = Jvm.exec) {pc : Nat} {Ls : Array Slot} {z : Int32} {t : FieldType} {rest : List Value} (hret : meth.sig.returnType = some t) (ht : t = .boolean ∨ t = .byte ∨ t = .char ∨ t = .short)
    (hd : decode c.code pc = .ok (.ireturn, 1)) (hlk : meth.locks = false) (hq : Q (some (.int (nar t z))) T.heap locs) (hk : cells ≤ k) (hn : slots ≤ n) : GoV p e below s Q k n (T.setTop (mkF m pc Ls (.int z :: rest))) := by
  obtain ⟨fs, hr, hrun, hended, hv, hW, hB, hs⟩ := X.leaveW hS h1 (v := some (.int (nar t z))) (fun h => by rw [hret] at h; cases h) hlk
  exact ⟨_, _, Jvm.RoadKit.retN X hx hret ht hd hr, hrun, hended, _, _, rfl, hq, hv, hW, hB, hs.mono hk hn⟩
def GoU (p : Program) (e : Env) (below : List Frame) (s : State) (Q : Option Value → Heap → Vm → List Loc → Prop) (k n : Nat) (u : State) : Prop :=
  ∃ s₂ o, Steps p.tables e below u s₂ ∧ s₂.status = .running ∧ Ended s₂ below o ∧ ∃ v L, o = .returned v ∧ Q v s₂.heap s₂.vm L ∧ ReturnedEndW s o s₂ L k n
section Wide
variable {QQ : Option Value → Heap → Vm → List Loc → Prop}
theorem GoU.mk (h : GoU p e below s QQ k n u) : ∃ s₂ o, Steps p.tables e below u s₂ ∧ s₂.status = .running ∧ Ended s₂ below o ∧ ∃ v L, o = .returned v ∧ QQ v s₂.heap s₂.vm L ∧ ReturnedEndW s o s₂ L k n := h
theorem GoU.st (h : ∀ t, Steps p.tables e below u t → Steps p.tables e below v t) (q : GoU p e below s QQ k n u) : GoU p e below s QQ k n v := by
  obtain ⟨s₂, o, h1, h2⟩ := q; exact ⟨s₂, o, h _ h1, h2⟩
theorem GoU.sg {T' : State} (g' : JFrame) (h : ∀ t, Steps p.tables e below (T'.setTop g') t → Steps p.tables e below v t) (q : GoU p e below s QQ k n (T'.setTop g')) : GoU p e below s QQ k n v := GoU.st h q
theorem GoU.retV {vm1 : Vm} {n1 : Nat} (X : Stand p l e R (s.setVm vm1) m args below meth c T locs cells slots) (hS : s.Since vm1 n1) (h1 : n1 ≤ T.heap.size) (hx : p.tables.exec = Jvm.exec) {pc : Nat} {Ls : Array Slot} (hret : meth.sig.returnType = none)
    (hd : decode c.code pc = .ok (.return_, 1)) (hlk : meth.locks = false) (hq : QQ none T.heap T.vm locs) (hk : cells ≤ k) (hn : slots ≤ n) : GoU p e below s QQ k n (T.setTop (mkF m pc Ls [])) := by
  obtain ⟨fs, hr, hrun, hended, hv, hW, hB, hs⟩ := X.leaveW hS h1 (v := none) (fun _ => rfl) hlk
  exact ⟨_, _, X.returnOut hx hret hd hr, hrun, hended, _, _, rfl, hq, hv, hW, hB, hs.mono hk hn⟩
theorem GoU.retA {vm1 : Vm} {n1 : Nat} (X : Stand p l e R (s.setVm vm1) m args below meth c T locs cells slots) (hS : s.Since vm1 n1) (h1 : n1 ≤ T.heap.size) (hx : p.tables.exec = Jvm.exec) {pc : Nat} {Ls : Array Slot} {w : Value} {t : FieldType} {rest : List Value} (hret : meth.sig.returnType = some t) (hw : w.isRef = true) (ht : t.isReference = true)
    (hn' : narrow t w = w) (hd : decode c.code pc = .ok (.areturn, 1)) (hlk : meth.locks = false) (hq : QQ (some w) T.heap T.vm locs) (hk : cells ≤ k) (hn : slots ≤ n) : GoU p e below s QQ k n (T.setTop (mkF m pc Ls (w :: rest))) := by
  obtain ⟨fs, hr, hrun, hended, hv, hW, hB, hs⟩ := X.leaveW hS h1 (v := some w) (fun h => by rw [hret] at h; cases h) hlk
  exact ⟨_, _, retOut X hx hret hn' (Or.inr (Or.inr (Or.inr (Or.inr ⟨rfl, ht, hw⟩)))) hd hr, hrun, hended, _, _, rfl, hq, hv, hW, hB, hs.mono hk hn⟩
theorem own_ibW {Z : State} {vm0 vm1 : Vm} {Ts : List String} (I : IB Z vm0 Ts) (h : vm1.interned = vm0.interned) : IB Z vm1 Ts := by
  obtain ⟨more, h1, h2⟩ := I; exact ⟨more, h.trans h1, h2⟩
theorem own_backU {Z : State} {a0 : Array Value} {h : Heap} {y : MethodName} {bytes : ByteArray} {maxL : Nat} {ret : Option FieldType} {rm : Room} {len W : Nat} {as' : Array Value} {PV : Vm → Prop}
    (hM : MetFree l y (head1 [Jvm.Cond.code y bytes maxL ret] rm) (fun a U => a = as' ∧ Z.Warmed39 U.vm ∧ U.heap = h ∧ PV U.vm) (fun _ _ _ _ _ => True) (fun _ U o U' => ∃ v L, o = .returned v ∧ QQ v U'.heap U'.vm L ∧ ReturnedEndW U o U' L rm.cells rm.slots))
    (hZ : Z.Warmed39 s.vm) (hI : ∀ vm1, s.WarmedH vm1 → PV vm1) (wc : (Jvm.Cond.code y bytes maxL ret).before a0 Z = true) (wz : (Jvm.Cond.initialized y.cls).before a0 Z = true) (hf : rm.frames + 1 ≤ R.frames) (hl : W + (maxL + 11) + rm.locals ≤ R.locals) :
    BackS l R p e below s args y len W (fun A a => a = as' ∧ A.U.heap = h ∧ A.cells + rm.cells ≤ R.cells ∧ A.slots + rm.slots ≤ R.slots)
      (fun A _ v B => ∃ L, QQ v B.U.heap B.U.vm L ∧ B.locs = A.locs ++ L ∧ B.cells = A.cells + rm.cells ∧ B.slots = A.slots + rm.slots) :=
  BackS.of_freeW (bytes := bytes) (maxL := maxL) (ret := ret) (E := fun _ _ o t L k n => k = rm.cells ∧ n = rm.slots ∧ ∃ v, o = .returned v ∧ QQ v t.heap t.vm L) hM hf hl
    (fun m meth c A a Y hp => have hU : Z.Warmed39 A.U.vm := wtrans hZ Y.warmed
      ⟨by show (Jvm.Cond.and _ .tt).before a A.U = true; rw [Cond.before_and, mv hU wc]; rfl, mv hU wc, mv hU wz, hp.2.2.1, hp.2.2.2⟩)
    (fun m meth c A a g mk Y hp => ⟨hp.1, wtrans hZ Y.warmed, hp.2.1, hI _ Y.warmed⟩) (fun _ _ _ _ _ _ _ _ _ => trivial)
    (fun _ _ _ _ ⟨v, L, h1, h2, h3⟩ => ⟨L, _, _, h3, rfl, rfl, v, h1, h2⟩)
    (fun m meth c A a g mk v t L k n Y hp _ _ ⟨e1, e2, v', e3, e4⟩ => by cases e3; subst e1 e2; exact ⟨L, e4, rfl, rfl, rfl⟩)
theorem own_specU {Z : State} {a0 : Array Value} {h : Heap} {vm0 : Vm} {k0 : Nat} (X : Stand p l e R (s.setVm vm0) m args below meth c T locs cells slots) (hx : p.tables.exec = Jvm.exec) (hZ : Z.Warmed39 (s.setVm vm0).vm) (hS : s.Since vm0 k0) (hk0 : k0 ≤ h.size) {own : String} {index : Nat} {y : MethodName} {bytes : ByteArray} {maxL : Nat} (hy1 : y.name = "<init>")
    (hown : (s.setVm vm0).vm.findClass own = some m.cls) (w1 : (Jvm.Cond.methodLink own index y).before a0 Z = true) (w2 : (Jvm.Cond.instanceMethod y).before a0 Z = true) (w3 : (Jvm.Cond.initialized y.cls).before a0 Z = true) (w4 : (Jvm.Cond.code y bytes maxL none).before a0 Z = true)
    (hy : y.cls ≠ "java/lang/invoke/MethodHandle" ∧ y.cls ≠ "java/lang/invoke/VarHandle") (W : Nat) {rm : Room} {a : Addr} {argsL rest : List Value} {PV : Vm → Prop}
    (hM : MetFree l y (head1 [Jvm.Cond.code y bytes maxL none] rm) (fun a' U => a' = (Value.ref a :: argsL).toArray ∧ Z.Warmed39 U.vm ∧ U.heap = h ∧ PV U.vm) (fun _ _ _ _ _ => True) (fun _ U o U' => ∃ v L, o = .returned v ∧ QQ v U'.heap U'.vm L ∧ ReturnedEndW U o U' L rm.cells rm.slots)) (hI : ∀ vm1, (s.setVm vm0).WarmedH vm1 → PV vm1)
    (hf : rm.frames + 1 ≤ R.frames) (hl : W + (maxL + 11) + rm.locals ≤ R.locals) (eT : T.heap = h) (hc : cells + rm.cells ≤ R.cells) (hs : slots + rm.slots ≤ R.slots)
    {g : JFrame} (hg : g.method = m) (hsize : g.locals.size = c.maxLocals) (hlen : ∀ sig, parseMethodDescriptor y.desc = some sig → argsL.length = sig.parameters.length)
    (hstack : g.stack = argsL.reverse ++ .ref a :: rest) (hW : 2 * g.monitorRoom + (rest.map fun v => v.category).sum ≤ W) (hdg : decode c.code g.pc = .ok (.invokespecial index, 3)) :
    ∃ (v : Option Value) (T' : State) (L : List Loc), Stand p l e R (s.setVm T'.vm) m args below meth c T' (locs ++ L) (cells + rm.cells) (slots + rm.slots) ∧ s.Since T'.vm T'.heap.size ∧ Z.Warmed39 (s.setVm T'.vm).vm ∧ (s.setVm T'.vm).vm.findClass own = some m.cls ∧ QQ v T'.heap T'.vm L ∧
      ∀ target, Steps p.tables e below (T'.setTop { g with pc := g.pc + 3, stack := v.toList ++ rest }) target → Steps p.tables e below (T.setTop g) target := by
  obtain ⟨v, _, ⟨T', L', k', n'⟩, -, X', hS', hgr, ⟨Lc, hQ, l', y', z'⟩, st⟩ := X.specialBackS hx (y := y) hy1 hown (mvT hZ w1) (mvT hZ w2) (mvT hZ w4) hy (own_backU (W := W) hM hZ hI w4 w3 hf hl) (g := g) hg hsize (Steps.refl _) (a := a) (argsL := argsL) (rest := rest) hlen hstack hW hdg (fun _ _ => ⟨rfl, eT, hc, hs⟩)
  dsimp only [Pt.U, Pt.locs, Pt.cells, Pt.slots] at X' l' y' z' st hQ hS' hgr
  subst l' y' z'
  exact ⟨v, T', Lc, X', foldS hS (by rw [eT]; exact hk0) hS' hgr, State.Warmed39.trans (t := s.setVm vm0) hZ hS'.1, by rw [show (s.setVm T'.vm).vm = T'.vm from rfl, hS'.1.alike.findClass]; exact hown, hQ, fun t k => st.trans k⟩
theorem own_callU {Z : State} {a0 : Array Value} {h : Heap} {vm0 : Vm} {k0 : Nat} (X : Stand p l e R (s.setVm vm0) m args below meth c T locs cells slots) (hx : p.tables.exec = Jvm.exec) (hZ : Z.Warmed39 (s.setVm vm0).vm) (hS : s.Since vm0 k0) (hk0 : k0 ≤ h.size) {own : String} {index : Nat} {y : MethodName} {bytes : ByteArray} {maxL : Nat} {ret : Option FieldType}
    (hown : (s.setVm vm0).vm.findClass own = some m.cls) (w1 : (Jvm.Cond.methodLink own index y).before a0 Z = true) (w2 : (Jvm.Cond.static y).before a0 Z = true) (w3 : (Jvm.Cond.initialized y.cls).before a0 Z = true) (w4 : (Jvm.Cond.code y bytes maxL ret).before a0 Z = true)
    (hy : y.cls ≠ "java/lang/invoke/MethodHandle" ∧ y.cls ≠ "java/lang/invoke/VarHandle") (W : Nat) {rm : Room} {argsL rest : List Value} {PV : Vm → Prop}
    (hM : MetFree l y (head1 [Jvm.Cond.code y bytes maxL ret] rm) (fun a' U => a' = argsL.toArray ∧ Z.Warmed39 U.vm ∧ U.heap = h ∧ PV U.vm) (fun _ _ _ _ _ => True) (fun _ U o U' => ∃ v L, o = .returned v ∧ QQ v U'.heap U'.vm L ∧ ReturnedEndW U o U' L rm.cells rm.slots)) (hI : ∀ vm1, (s.setVm vm0).WarmedH vm1 → PV vm1)
    (hf : rm.frames + 1 ≤ R.frames) (hl : W + (maxL + 11) + rm.locals ≤ R.locals) (eT : T.heap = h) (hc : cells + rm.cells ≤ R.cells) (hs : slots + rm.slots ≤ R.slots)
    {g : JFrame} (hg : g.method = m) (hsize : g.locals.size = c.maxLocals) (hlen : ∀ sig, parseMethodDescriptor y.desc = some sig → argsL.length = sig.parameters.length)
    (hstack : g.stack = argsL.reverse ++ rest) (hW : 2 * g.monitorRoom + (rest.map fun v => v.category).sum ≤ W) (hdg : decode c.code g.pc = .ok (.invokestatic index, 3)) :
    ∃ (v : Option Value) (T' : State) (L : List Loc), Stand p l e R (s.setVm T'.vm) m args below meth c T' (locs ++ L) (cells + rm.cells) (slots + rm.slots) ∧ s.Since T'.vm T'.heap.size ∧ Z.Warmed39 (s.setVm T'.vm).vm ∧ (s.setVm T'.vm).vm.findClass own = some m.cls ∧ QQ v T'.heap T'.vm L ∧
      ∀ target, Steps p.tables e below (T'.setTop { g with pc := g.pc + 3, stack := v.toList ++ rest }) target → Steps p.tables e below (T.setTop g) target := by
  obtain ⟨v, _, ⟨T', L', k', n'⟩, -, X', hS', hgr, ⟨Lc, hQ, l', y', z'⟩, st⟩ := callSS X hx (y := y) hown (mvT hZ w1) (mvT hZ w2) (mvT hZ w3) (mvT hZ w4) hy (own_backU (W := W) hM hZ hI w4 w3 hf hl) (g := g) hg hsize (argsL := argsL) (rest := rest) hlen hstack hW hdg (fun _ _ => ⟨rfl, eT, hc, hs⟩)
  dsimp only [Pt.U, Pt.locs, Pt.cells, Pt.slots] at X' l' y' z' st hQ hS' hgr
  subst l' y' z'
  exact ⟨v, T', Lc, X', foldS hS (by rw [eT]; exact hk0) hS' hgr, State.Warmed39.trans (t := s.setVm vm0) hZ hS'.1, by rw [show (s.setVm T'.vm).vm = T'.vm from rfl, hS'.1.alike.findClass]; exact hown, hQ, fun t k => st.trans k⟩
end Wide
end New
end Jvm.RoadKit
namespace Jvm.Pilot.@@N@@
open Jvm Jvm.ClassFile Sem Op Lib Jvm.Free Jvm.Stand Jvm.LawKit Jvm.RoadKit Bundle Jvm.Pilot.@@N@@.Jvm.D
set_option maxRecDepth 65536
set_option maxHeartbeats 40000000
abbrev HW (a0 : Array Value) (Z : State) : Prop := ∀ d ∈ tables_1, d.before a0 Z = true
theorem ww {Z : State} {a0 : Array Value} (hw : ∀ d ∈ tables_1, d.before a0 Z = true) (i : Nat) {d : Jvm.Cond} (h : tables_1[i]? = some d) : d.before a0 Z = true := hw _ (List.mem_of_getElem? h)
theorem pn_com_example_nearterm_nearterm_embedding_ExactSums : plainName "com/example/nearterm/nearterm/embedding/ExactSums" = true := by first | (simp [plainName, overriddenIn]; done) | decide +kernel
theorem d5_0 : decode prog_7_method_6_code 0 = .ok (.lload_n 0, 1) := by decide +kernel
theorem d5_1 : decode prog_7_method_6_code 1 = .ok (.bipush 52, 2) := by decide +kernel
theorem d5_3 : decode prog_7_method_6_code 3 = .ok (.lushr, 1) := by decide +kernel
theorem d5_4 : decode prog_7_method_6_code 4 = .ok (.l2i, 1) := by decide +kernel
theorem d5_5 : decode prog_7_method_6_code 5 = .ok (.sipush 2047, 3) := by decide +kernel
theorem d5_8 : decode prog_7_method_6_code 8 = .ok (.iand, 1) := by decide +kernel
theorem d5_9 : decode prog_7_method_6_code 9 = .ok (.ireturn, 1) := by decide +kernel
abbrev Y5 : MethodName := ⟨"com/example/nearterm/nearterm/embedding/ExactSums", "exponent", "(J)I"⟩
theorem d7_0 : decode jdk_29_method_65_code 0 = .ok (.iload_n 0, 1) := by decide +kernel
theorem d7_1 : decode jdk_29_method_65_code 1 = .ok (.iload_n 1, 1) := by decide +kernel
theorem d7_2 : decode jdk_29_method_65_code 2 = .ok (.if_icmp .lt 7, 3) := by decide +kernel
theorem d7_9 : decode jdk_29_method_65_code 9 = .ok (.iload_n 1, 1) := by decide +kernel
theorem d7_5 : decode jdk_29_method_65_code 5 = .ok (.iload_n 0, 1) := by decide +kernel
theorem d7_6 : decode jdk_29_method_65_code 6 = .ok (.goto 4, 3) := by decide +kernel
theorem d7_10 : decode jdk_29_method_65_code 10 = .ok (.ireturn, 1) := by decide +kernel
abbrev Y7 : MethodName := ⟨"java/lang/Math", "max", "(II)I"⟩
theorem d6_0 : decode prog_7_method_8_code 0 = .ok (.iload_n 0, 1) := by decide +kernel
theorem d6_1 : decode prog_7_method_8_code 1 = .ok (.iconst 1, 1) := by decide +kernel
theorem pd_28II29I : parseMethodDescriptor "(II)I" = some ⟨[.int, .int], some .int⟩ := by decide +kernel
theorem d6_2 : decode prog_7_method_8_code 2 = .ok (.invokestatic 68, 3) := by decide +kernel
theorem d6_5 : decode prog_7_method_8_code 5 = .ok (.iconst 1, 1) := by decide +kernel
theorem d6_6 : decode prog_7_method_8_code 6 = .ok (.isub, 1) := by decide +kernel
theorem d6_7 : decode prog_7_method_8_code 7 = .ok (.ireturn, 1) := by decide +kernel
abbrev Y6 : MethodName := ⟨"com/example/nearterm/nearterm/embedding/ExactSums", "position", "(I)I"⟩
abbrev Sh0 (p0 : Int64) (p1 : Int32) : Array Slot := #[.val (.long p0), .second, .val (.int p1)]
theorem d8_0 : decode prog_7_method_7_code 0 = .ok (.lload_n 0, 1) := by decide +kernel
theorem d8_1 : decode prog_7_method_7_code 1 = .ok (.ldc2_w 101, 3) := by decide +kernel
theorem d8_4 : decode prog_7_method_7_code 4 = .ok (.land, 1) := by decide +kernel
theorem d8_5 : decode prog_7_method_7_code 5 = .ok (.iload_n 2, 1) := by decide +kernel
theorem d8_6 : decode prog_7_method_7_code 6 = .ok (.i2l, 1) := by decide +kernel
theorem d8_7 : decode prog_7_method_7_code 7 = .ok (.lneg, 1) := by decide +kernel
theorem d8_8 : decode prog_7_method_7_code 8 = .ok (.bipush 63, 2) := by decide +kernel
theorem d8_10 : decode prog_7_method_7_code 10 = .ok (.lshr, 1) := by decide +kernel
theorem d8_11 : decode prog_7_method_7_code 11 = .ok (.ldc2_w 103, 3) := by decide +kernel
theorem d8_14 : decode prog_7_method_7_code 14 = .ok (.land, 1) := by decide +kernel
theorem d8_15 : decode prog_7_method_7_code 15 = .ok (.lor, 1) := by decide +kernel
theorem d8_16 : decode prog_7_method_7_code 16 = .ok (.lreturn, 1) := by decide +kernel
abbrev Y8 : MethodName := ⟨"com/example/nearterm/nearterm/embedding/ExactSums", "mantissa", "(JI)J"⟩
theorem pn_java_lang_Integer : plainName "java/lang/Integer" = true := by first | (simp [plainName, overriddenIn]; done) | decide +kernel
theorem d14_0 : decode jdk_33_method_47_code 0 = .ok (.iload_n 0, 1) := by decide +kernel
theorem d14_1 : decode jdk_33_method_47_code 1 = .ok (.ifCond .gt 14, 3) := by decide +kernel
theorem d14_15 : decode jdk_33_method_47_code 15 = .ok (.bipush 31, 2) := by decide +kernel
theorem d14_17 : decode jdk_33_method_47_code 17 = .ok (.istore_n 1, 1) := by decide +kernel
theorem d14_18 : decode jdk_33_method_47_code 18 = .ok (.iload_n 0, 1) := by decide +kernel
theorem d14_19 : decode jdk_33_method_47_code 19 = .ok (.ldc_w 264, 3) := by decide +kernel
theorem d14_22 : decode jdk_33_method_47_code 22 = .ok (.if_icmp .lt 11, 3) := by decide +kernel
theorem d14_33 : decode jdk_33_method_47_code 33 = .ok (.iload_n 0, 1) := by decide +kernel
theorem d14_34 : decode jdk_33_method_47_code 34 = .ok (.sipush 256, 3) := by decide +kernel
theorem d14_37 : decode jdk_33_method_47_code 37 = .ok (.if_icmp .lt 11, 3) := by decide +kernel
theorem d14_48 : decode jdk_33_method_47_code 48 = .ok (.iload_n 0, 1) := by decide +kernel
theorem d14_49 : decode jdk_33_method_47_code 49 = .ok (.bipush 16, 2) := by decide +kernel
theorem d14_51 : decode jdk_33_method_47_code 51 = .ok (.if_icmp .lt 10, 3) := by decide +kernel
theorem d14_61 : decode jdk_33_method_47_code 61 = .ok (.iload_n 0, 1) := by decide +kernel
theorem d14_62 : decode jdk_33_method_47_code 62 = .ok (.iconst 4, 1) := by decide +kernel
theorem d14_63 : decode jdk_33_method_47_code 63 = .ok (.if_icmp .lt 10, 3) := by decide +kernel
theorem d14_73 : decode jdk_33_method_47_code 73 = .ok (.iload_n 1, 1) := by decide +kernel
theorem d14_74 : decode jdk_33_method_47_code 74 = .ok (.iload_n 0, 1) := by decide +kernel
theorem d14_75 : decode jdk_33_method_47_code 75 = .ok (.iconst 1, 1) := by decide +kernel
theorem d14_76 : decode jdk_33_method_47_code 76 = .ok (.iushr, 1) := by decide +kernel
theorem d14_77 : decode jdk_33_method_47_code 77 = .ok (.isub, 1) := by decide +kernel
theorem d14_78 : decode jdk_33_method_47_code 78 = .ok (.ireturn, 1) := by decide +kernel
theorem d14_66 : decode jdk_33_method_47_code 66 = .ok (.iinc 1 (-2), 3) := by decide +kernel
theorem d14_69 : decode jdk_33_method_47_code 69 = .ok (.iload_n 0, 1) := by decide +kernel
theorem d14_70 : decode jdk_33_method_47_code 70 = .ok (.iconst 2, 1) := by decide +kernel
theorem d14_71 : decode jdk_33_method_47_code 71 = .ok (.iushr, 1) := by decide +kernel
theorem d14_72 : decode jdk_33_method_47_code 72 = .ok (.istore_n 0, 1) := by decide +kernel
theorem d14_54 : decode jdk_33_method_47_code 54 = .ok (.iinc 1 (-4), 3) := by decide +kernel
theorem d14_57 : decode jdk_33_method_47_code 57 = .ok (.iload_n 0, 1) := by decide +kernel
theorem d14_58 : decode jdk_33_method_47_code 58 = .ok (.iconst 4, 1) := by decide +kernel
theorem d14_59 : decode jdk_33_method_47_code 59 = .ok (.iushr, 1) := by decide +kernel
theorem d14_60 : decode jdk_33_method_47_code 60 = .ok (.istore_n 0, 1) := by decide +kernel
theorem d14_40 : decode jdk_33_method_47_code 40 = .ok (.iinc 1 (-8), 3) := by decide +kernel
theorem d14_43 : decode jdk_33_method_47_code 43 = .ok (.iload_n 0, 1) := by decide +kernel
theorem d14_44 : decode jdk_33_method_47_code 44 = .ok (.bipush 8, 2) := by decide +kernel
theorem d14_46 : decode jdk_33_method_47_code 46 = .ok (.iushr, 1) := by decide +kernel
theorem d14_47 : decode jdk_33_method_47_code 47 = .ok (.istore_n 0, 1) := by decide +kernel
theorem d14_25 : decode jdk_33_method_47_code 25 = .ok (.iinc 1 (-16), 3) := by decide +kernel
theorem d14_28 : decode jdk_33_method_47_code 28 = .ok (.iload_n 0, 1) := by decide +kernel
theorem d14_29 : decode jdk_33_method_47_code 29 = .ok (.bipush 16, 2) := by decide +kernel
theorem d14_31 : decode jdk_33_method_47_code 31 = .ok (.iushr, 1) := by decide +kernel
theorem d14_32 : decode jdk_33_method_47_code 32 = .ok (.istore_n 0, 1) := by decide +kernel
theorem d14_4 : decode jdk_33_method_47_code 4 = .ok (.iload_n 0, 1) := by decide +kernel
theorem d14_5 : decode jdk_33_method_47_code 5 = .ok (.ifCond .ne 8, 3) := by decide +kernel
theorem d14_8 : decode jdk_33_method_47_code 8 = .ok (.bipush 32, 2) := by decide +kernel
theorem d14_10 : decode jdk_33_method_47_code 10 = .ok (.goto 4, 3) := by decide +kernel
theorem d14_14 : decode jdk_33_method_47_code 14 = .ok (.ireturn, 1) := by decide +kernel
theorem d14_13 : decode jdk_33_method_47_code 13 = .ok (.iconst 0, 1) := by decide +kernel
abbrev Y14 : MethodName := ⟨"java/lang/Integer", "numberOfLeadingZeros", "(I)I"⟩
abbrev Sh1 (p0 : Int64) : Array Slot := #[.val (.long p0), .second, .unset]
theorem pn_java_lang_Long : plainName "java/lang/Long" = true := by first | (simp [plainName, overriddenIn]; done) | decide +kernel
theorem d13_0 : decode jdk_35_method_48_code 0 = .ok (.lload_n 0, 1) := by decide +kernel
theorem d13_1 : decode jdk_35_method_48_code 1 = .ok (.bipush 32, 2) := by decide +kernel
theorem d13_3 : decode jdk_35_method_48_code 3 = .ok (.lushr, 1) := by decide +kernel
theorem d13_4 : decode jdk_35_method_48_code 4 = .ok (.l2i, 1) := by decide +kernel
theorem d13_5 : decode jdk_35_method_48_code 5 = .ok (.istore_n 2, 1) := by decide +kernel
theorem d13_6 : decode jdk_35_method_48_code 6 = .ok (.iload_n 2, 1) := by decide +kernel
theorem d13_7 : decode jdk_35_method_48_code 7 = .ok (.ifCond .ne 14, 3) := by decide +kernel
theorem d13_10 : decode jdk_35_method_48_code 10 = .ok (.bipush 32, 2) := by decide +kernel
theorem d13_12 : decode jdk_35_method_48_code 12 = .ok (.lload_n 0, 1) := by decide +kernel
theorem d13_13 : decode jdk_35_method_48_code 13 = .ok (.l2i, 1) := by decide +kernel
theorem pd_28I29I : parseMethodDescriptor "(I)I" = some ⟨[.int], some .int⟩ := by decide +kernel
theorem d13_14 : decode jdk_35_method_48_code 14 = .ok (.invokestatic 308, 3) := by decide +kernel
theorem d13_17 : decode jdk_35_method_48_code 17 = .ok (.iadd, 1) := by decide +kernel
theorem d13_18 : decode jdk_35_method_48_code 18 = .ok (.goto 7, 3) := by decide +kernel
theorem d13_25 : decode jdk_35_method_48_code 25 = .ok (.ireturn, 1) := by decide +kernel
theorem d13_21 : decode jdk_35_method_48_code 21 = .ok (.iload_n 2, 1) := by decide +kernel
theorem d13_22 : decode jdk_35_method_48_code 22 = .ok (.invokestatic 308, 3) := by decide +kernel
abbrev Y13 : MethodName := ⟨"java/lang/Long", "numberOfLeadingZeros", "(J)I"⟩
theorem d17_0 : decode prog_7_method_17_code 0 = .ok (.aload_n 0, 1) := by decide +kernel
theorem d17_1 : decode prog_7_method_17_code 1 = .ok (.iload_n 1, 1) := by decide +kernel
theorem d17_2 : decode prog_7_method_17_code 2 = .ok (.iconst 5, 1) := by decide +kernel
theorem d17_3 : decode prog_7_method_17_code 3 = .ok (.iushr, 1) := by decide +kernel
theorem d17_4 : decode prog_7_method_17_code 4 = .ok (.laload, 1) := by decide +kernel
theorem d17_5 : decode prog_7_method_17_code 5 = .ok (.iload_n 1, 1) := by decide +kernel
theorem d17_6 : decode prog_7_method_17_code 6 = .ok (.bipush 31, 2) := by decide +kernel
theorem d17_8 : decode prog_7_method_17_code 8 = .ok (.iand, 1) := by decide +kernel
theorem d17_9 : decode prog_7_method_17_code 9 = .ok (.lushr, 1) := by decide +kernel
theorem d17_10 : decode prog_7_method_17_code 10 = .ok (.lconst 1, 1) := by decide +kernel
theorem d17_11 : decode prog_7_method_17_code 11 = .ok (.land, 1) := by decide +kernel
theorem d17_12 : decode prog_7_method_17_code 12 = .ok (.lconst 1, 1) := by decide +kernel
theorem d17_13 : decode prog_7_method_17_code 13 = .ok (.lcmp, 1) := by decide +kernel
theorem d17_14 : decode prog_7_method_17_code 14 = .ok (.ifCond .ne 7, 3) := by decide +kernel
theorem d17_21 : decode prog_7_method_17_code 21 = .ok (.iconst 0, 1) := by decide +kernel
theorem d17_22 : decode prog_7_method_17_code 22 = .ok (.ireturn, 1) := by decide +kernel
abbrev Y17 : MethodName := ⟨"com/example/nearterm/nearterm/embedding/ExactSums", "bit", "([JI)Z"⟩
abbrev Sh2 (p0 : Addr) (p1 : Int32) : Array Slot := #[.val (.ref p0), .val (.int p1), .unset, .unset, .unset, .unset, .unset]
theorem d16_0 : decode prog_7_method_16_code 0 = .ok (.iload_n 1, 1) := by decide +kernel
theorem d16_1 : decode prog_7_method_16_code 1 = .ok (.iconst 5, 1) := by decide +kernel
theorem d16_2 : decode prog_7_method_16_code 2 = .ok (.iushr, 1) := by decide +kernel
theorem d16_3 : decode prog_7_method_16_code 3 = .ok (.istore_n 2, 1) := by decide +kernel
abbrev Sh3 (p0 : Addr) (p1 : Int32) (p2 : Int32) : Array Slot := #[.val (.ref p0), .val (.int p1), .val (.int p2), .unset, .unset, .unset, .unset]
theorem d16_4 : decode prog_7_method_16_code 4 = .ok (.aload_n 0, 1) := by decide +kernel
theorem d16_5 : decode prog_7_method_16_code 5 = .ok (.iload_n 2, 1) := by decide +kernel
theorem d16_6 : decode prog_7_method_16_code 6 = .ok (.laload, 1) := by decide +kernel
theorem d16_7 : decode prog_7_method_16_code 7 = .ok (.iload_n 1, 1) := by decide +kernel
theorem d16_8 : decode prog_7_method_16_code 8 = .ok (.bipush 31, 2) := by decide +kernel
theorem d16_10 : decode prog_7_method_16_code 10 = .ok (.iand, 1) := by decide +kernel
theorem d16_11 : decode prog_7_method_16_code 11 = .ok (.lushr, 1) := by decide +kernel
theorem d16_12 : decode prog_7_method_16_code 12 = .ok (.lstore_n 3, 1) := by decide +kernel
abbrev Sh4 (p0 : Addr) (p1 : Int32) (p2 : Int32) (p3 : Int64) : Array Slot := #[.val (.ref p0), .val (.int p1), .val (.int p2), .val (.long p3), .second, .unset, .unset]
theorem d16_13 : decode prog_7_method_16_code 13 = .ok (.bipush 32, 2) := by decide +kernel
theorem d16_15 : decode prog_7_method_16_code 15 = .ok (.iload_n 1, 1) := by decide +kernel
theorem d16_16 : decode prog_7_method_16_code 16 = .ok (.bipush 31, 2) := by decide +kernel
theorem d16_18 : decode prog_7_method_16_code 18 = .ok (.iand, 1) := by decide +kernel
theorem d16_19 : decode prog_7_method_16_code 19 = .ok (.isub, 1) := by decide +kernel
theorem d16_20 : decode prog_7_method_16_code 20 = .ok (.istore 5, 2) := by decide +kernel
abbrev Sh5 (p0 : Addr) (p1 : Int32) (p2 : Int32) (p3 : Int64) (p4 : Int32) : Array Slot := #[.val (.ref p0), .val (.int p1), .val (.int p2), .val (.long p3), .second, .val (.int p4), .unset]
theorem d16_22 : decode prog_7_method_16_code 22 = .ok (.iload_n 2, 1) := by decide +kernel
theorem d16_23 : decode prog_7_method_16_code 23 = .ok (.iconst 1, 1) := by decide +kernel
theorem d16_24 : decode prog_7_method_16_code 24 = .ok (.iadd, 1) := by decide +kernel
theorem d16_25 : decode prog_7_method_16_code 25 = .ok (.istore 6, 2) := by decide +kernel
abbrev Sh6 (p0 : Addr) (p1 : Int32) (p2 : Int32) (p3 : Int64) (p4 : Int32) (p5 : Int32) : Array Slot := #[.val (.ref p0), .val (.int p1), .val (.int p2), .val (.long p3), .second, .val (.int p4), .val (.int p5)]
theorem d16_27 : decode prog_7_method_16_code 27 = .ok (.iload 5, 2) := by decide +kernel
theorem d16_29 : decode prog_7_method_16_code 29 = .ok (.bipush 52, 2) := by decide +kernel
theorem d16_31 : decode prog_7_method_16_code 31 = .ok (.if_icmp .gt 29, 3) := by decide +kernel
theorem d16_34 : decode prog_7_method_16_code 34 = .ok (.iload 6, 2) := by decide +kernel
theorem d16_36 : decode prog_7_method_16_code 36 = .ok (.bipush 36, 2) := by decide +kernel
theorem d16_38 : decode prog_7_method_16_code 38 = .ok (.if_icmp .ge 22, 3) := by decide +kernel
theorem d16_41 : decode prog_7_method_16_code 41 = .ok (.lload_n 3, 1) := by decide +kernel
theorem d16_42 : decode prog_7_method_16_code 42 = .ok (.aload_n 0, 1) := by decide +kernel
theorem d16_43 : decode prog_7_method_16_code 43 = .ok (.iload 6, 2) := by decide +kernel
theorem d16_45 : decode prog_7_method_16_code 45 = .ok (.laload, 1) := by decide +kernel
theorem d16_46 : decode prog_7_method_16_code 46 = .ok (.iload 5, 2) := by decide +kernel
theorem d16_48 : decode prog_7_method_16_code 48 = .ok (.lshl, 1) := by decide +kernel
theorem d16_49 : decode prog_7_method_16_code 49 = .ok (.lor, 1) := by decide +kernel
theorem d16_50 : decode prog_7_method_16_code 50 = .ok (.lstore_n 3, 1) := by decide +kernel
theorem d16_51 : decode prog_7_method_16_code 51 = .ok (.iinc 5 32, 3) := by decide +kernel
theorem d16_54 : decode prog_7_method_16_code 54 = .ok (.iinc 6 1, 3) := by decide +kernel
theorem d16_57 : decode prog_7_method_16_code 57 = .ok (.goto (-30), 3) := by decide +kernel
theorem d16_60 : decode prog_7_method_16_code 60 = .ok (.lload_n 3, 1) := by decide +kernel
theorem d16_61 : decode prog_7_method_16_code 61 = .ok (.ldc2_w 141, 3) := by decide +kernel
theorem d16_64 : decode prog_7_method_16_code 64 = .ok (.land, 1) := by decide +kernel
theorem d16_65 : decode prog_7_method_16_code 65 = .ok (.lreturn, 1) := by decide +kernel
abbrev Y16 : MethodName := ⟨"com/example/nearterm/nearterm/embedding/ExactSums", "bitsFrom", "([JI)J"⟩
abbrev Sh7 (p0 : Addr) (p1 : Int32) : Array Slot := #[.val (.ref p0), .val (.int p1), .unset, .unset, .unset]
theorem d15_0 : decode prog_7_method_15_code 0 = .ok (.iload_n 1, 1) := by decide +kernel
theorem d15_1 : decode prog_7_method_15_code 1 = .ok (.bipush 53, 2) := by decide +kernel
theorem d15_3 : decode prog_7_method_15_code 3 = .ok (.if_icmp .gt 14, 3) := by decide +kernel
theorem d15_17 : decode prog_7_method_15_code 17 = .ok (.iload_n 1, 1) := by decide +kernel
theorem d15_18 : decode prog_7_method_15_code 18 = .ok (.bipush 53, 2) := by decide +kernel
theorem d15_20 : decode prog_7_method_15_code 20 = .ok (.isub, 1) := by decide +kernel
theorem d15_21 : decode prog_7_method_15_code 21 = .ok (.istore_n 2, 1) := by decide +kernel
abbrev Sh8 (p0 : Addr) (p1 : Int32) (p2 : Int32) : Array Slot := #[.val (.ref p0), .val (.int p1), .val (.int p2), .unset, .unset]
theorem d15_22 : decode prog_7_method_15_code 22 = .ok (.aload_n 0, 1) := by decide +kernel
theorem d15_23 : decode prog_7_method_15_code 23 = .ok (.iload_n 2, 1) := by decide +kernel
theorem pd_285bJI29J : parseMethodDescriptor "([JI)J" = some ⟨[(.array .long), .int], some .long⟩ := by decide +kernel
theorem d15_24 : decode prog_7_method_15_code 24 = .ok (.invokestatic 129, 3) := by decide +kernel
theorem d15_27 : decode prog_7_method_15_code 27 = .ok (.lstore_n 3, 1) := by decide +kernel
abbrev Sh9 (p0 : Addr) (p1 : Int32) (p2 : Int32) (p3 : Int64) : Array Slot := #[.val (.ref p0), .val (.int p1), .val (.int p2), .val (.long p3), .second]
theorem d15_28 : decode prog_7_method_15_code 28 = .ok (.aload_n 0, 1) := by decide +kernel
theorem d15_29 : decode prog_7_method_15_code 29 = .ok (.iload_n 2, 1) := by decide +kernel
theorem d15_30 : decode prog_7_method_15_code 30 = .ok (.iconst 1, 1) := by decide +kernel
theorem d15_31 : decode prog_7_method_15_code 31 = .ok (.isub, 1) := by decide +kernel
theorem pd_285bJI29Z : parseMethodDescriptor "([JI)Z" = some ⟨[(.array .long), .int], some .boolean⟩ := by decide +kernel
theorem d15_32 : decode prog_7_method_15_code 32 = .ok (.invokestatic 132, 3) := by decide +kernel
theorem d15_35 : decode prog_7_method_15_code 35 = .ok (.ifCond .eq 40, 3) := by decide +kernel
theorem d15_75 : decode prog_7_method_15_code 75 = .ok (.iload_n 2, 1) := by decide +kernel
theorem d15_76 : decode prog_7_method_15_code 76 = .ok (.i2l, 1) := by decide +kernel
theorem d15_77 : decode prog_7_method_15_code 77 = .ok (.bipush 52, 2) := by decide +kernel
theorem d15_79 : decode prog_7_method_15_code 79 = .ok (.lshl, 1) := by decide +kernel
theorem d15_80 : decode prog_7_method_15_code 80 = .ok (.lload_n 3, 1) := by decide +kernel
theorem d15_81 : decode prog_7_method_15_code 81 = .ok (.ladd, 1) := by decide +kernel
theorem d15_82 : decode prog_7_method_15_code 82 = .ok (.lreturn, 1) := by decide +kernel
abbrev Y15 : MethodName := ⟨"com/example/nearterm/nearterm/embedding/ExactSums", "nearest", "([JI)J"⟩
abbrev Sh10 (p0 : Addr) (p1 : Int32) (p2 : Addr) : Array Slot := #[.val (.ref p0), .val (.int p1), .val (.ref p2), .unset, .unset, .unset, .unset, .unset, .unset, .unset, .unset]
theorem d12_0 : decode prog_7_method_14_code 0 = .ok (.lconst 0, 1) := by decide +kernel
theorem d12_1 : decode prog_7_method_14_code 1 = .ok (.lstore_n 3, 1) := by decide +kernel
abbrev Sh11 (p0 : Addr) (p1 : Int32) (p2 : Addr) (p3 : Int64) : Array Slot := #[.val (.ref p0), .val (.int p1), .val (.ref p2), .val (.long p3), .second, .unset, .unset, .unset, .unset, .unset, .unset]
theorem d12_2 : decode prog_7_method_14_code 2 = .ok (.iconst 0, 1) := by decide +kernel
theorem d12_3 : decode prog_7_method_14_code 3 = .ok (.istore 5, 2) := by decide +kernel
abbrev Sh12 (p0 : Addr) (p1 : Int32) (p2 : Addr) (p3 : Int64) (p4 : Int32) : Array Slot := #[.val (.ref p0), .val (.int p1), .val (.ref p2), .val (.long p3), .second, .val (.int p4), .unset, .unset, .unset, .unset, .unset]
theorem d12_5 : decode prog_7_method_14_code 5 = .ok (.iload 5, 2) := by decide +kernel
theorem d12_7 : decode prog_7_method_14_code 7 = .ok (.bipush 36, 2) := by decide +kernel
theorem d12_9 : decode prog_7_method_14_code 9 = .ok (.if_icmp .ge 41, 3) := by decide +kernel
theorem d12_12 : decode prog_7_method_14_code 12 = .ok (.aload_n 0, 1) := by decide +kernel
theorem d12_13 : decode prog_7_method_14_code 13 = .ok (.getfield 15, 3) := by decide +kernel
theorem d12_16 : decode prog_7_method_14_code 16 = .ok (.iload_n 1, 1) := by decide +kernel
theorem d12_17 : decode prog_7_method_14_code 17 = .ok (.bipush 36, 2) := by decide +kernel
theorem d12_19 : decode prog_7_method_14_code 19 = .ok (.imul, 1) := by decide +kernel
theorem d12_20 : decode prog_7_method_14_code 20 = .ok (.iload 5, 2) := by decide +kernel
theorem d12_22 : decode prog_7_method_14_code 22 = .ok (.iadd, 1) := by decide +kernel
theorem d12_23 : decode prog_7_method_14_code 23 = .ok (.laload, 1) := by decide +kernel
theorem d12_24 : decode prog_7_method_14_code 24 = .ok (.lload_n 3, 1) := by decide +kernel
theorem d12_25 : decode prog_7_method_14_code 25 = .ok (.ladd, 1) := by decide +kernel
theorem d12_26 : decode prog_7_method_14_code 26 = .ok (.lstore 6, 2) := by decide +kernel
abbrev Sh13 (p0 : Addr) (p1 : Int32) (p2 : Addr) (p3 : Int64) (p4 : Int32) (p5 : Int64) : Array Slot := #[.val (.ref p0), .val (.int p1), .val (.ref p2), .val (.long p3), .second, .val (.int p4), .val (.long p5), .second, .unset, .unset, .unset]
theorem d12_28 : decode prog_7_method_14_code 28 = .ok (.aload_n 2, 1) := by decide +kernel
theorem d12_29 : decode prog_7_method_14_code 29 = .ok (.iload 5, 2) := by decide +kernel
theorem d12_31 : decode prog_7_method_14_code 31 = .ok (.lload 6, 2) := by decide +kernel
theorem d12_33 : decode prog_7_method_14_code 33 = .ok (.ldc2_w 108, 3) := by decide +kernel
theorem d12_36 : decode prog_7_method_14_code 36 = .ok (.land, 1) := by decide +kernel
theorem d12_37 : decode prog_7_method_14_code 37 = .ok (.lastore, 1) := by decide +kernel
theorem d12_38 : decode prog_7_method_14_code 38 = .ok (.lload 6, 2) := by decide +kernel
theorem d12_40 : decode prog_7_method_14_code 40 = .ok (.bipush 32, 2) := by decide +kernel
theorem d12_42 : decode prog_7_method_14_code 42 = .ok (.lshr, 1) := by decide +kernel
theorem d12_43 : decode prog_7_method_14_code 43 = .ok (.lstore_n 3, 1) := by decide +kernel
theorem d12_44 : decode prog_7_method_14_code 44 = .ok (.iinc 5 1, 3) := by decide +kernel
theorem d12_47 : decode prog_7_method_14_code 47 = .ok (.goto (-42), 3) := by decide +kernel
theorem d12_50 : decode prog_7_method_14_code 50 = .ok (.lload_n 3, 1) := by decide +kernel
theorem d12_51 : decode prog_7_method_14_code 51 = .ok (.lconst 0, 1) := by decide +kernel
theorem d12_52 : decode prog_7_method_14_code 52 = .ok (.lcmp, 1) := by decide +kernel
theorem d12_53 : decode prog_7_method_14_code 53 = .ok (.ifCond .ge 7, 3) := by decide +kernel
theorem d12_56 : decode prog_7_method_14_code 56 = .ok (.iconst 1, 1) := by decide +kernel
theorem d12_57 : decode prog_7_method_14_code 57 = .ok (.goto 4, 3) := by decide +kernel
theorem d12_61 : decode prog_7_method_14_code 61 = .ok (.istore 5, 2) := by decide +kernel
theorem d12_63 : decode prog_7_method_14_code 63 = .ok (.iload 5, 2) := by decide +kernel
theorem d12_65 : decode prog_7_method_14_code 65 = .ok (.ifCond .eq 56, 3) := by decide +kernel
theorem d12_68 : decode prog_7_method_14_code 68 = .ok (.lconst 1, 1) := by decide +kernel
theorem d12_69 : decode prog_7_method_14_code 69 = .ok (.lstore 6, 2) := by decide +kernel
theorem d12_71 : decode prog_7_method_14_code 71 = .ok (.iconst 0, 1) := by decide +kernel
theorem d12_72 : decode prog_7_method_14_code 72 = .ok (.istore 8, 2) := by decide +kernel
abbrev Sh14 (p0 : Addr) (p1 : Int32) (p2 : Addr) (p3 : Int64) (p4 : Int32) (p5 : Int64) (p6 : Int32) : Array Slot := #[.val (.ref p0), .val (.int p1), .val (.ref p2), .val (.long p3), .second, .val (.int p4), .val (.long p5), .second, .val (.int p6), .unset, .unset]
theorem d12_74 : decode prog_7_method_14_code 74 = .ok (.iload 8, 2) := by decide +kernel
theorem d12_76 : decode prog_7_method_14_code 76 = .ok (.bipush 36, 2) := by decide +kernel
theorem d12_78 : decode prog_7_method_14_code 78 = .ok (.if_icmp .ge 43, 3) := by decide +kernel
theorem d12_81 : decode prog_7_method_14_code 81 = .ok (.aload_n 2, 1) := by decide +kernel
theorem d12_82 : decode prog_7_method_14_code 82 = .ok (.iload 8, 2) := by decide +kernel
theorem d12_84 : decode prog_7_method_14_code 84 = .ok (.laload, 1) := by decide +kernel
theorem d12_85 : decode prog_7_method_14_code 85 = .ok (.ldc2_w 114, 3) := by decide +kernel
theorem d12_88 : decode prog_7_method_14_code 88 = .ok (.lxor, 1) := by decide +kernel
theorem d12_89 : decode prog_7_method_14_code 89 = .ok (.ldc2_w 108, 3) := by decide +kernel
theorem d12_92 : decode prog_7_method_14_code 92 = .ok (.land, 1) := by decide +kernel
theorem d12_93 : decode prog_7_method_14_code 93 = .ok (.lload 6, 2) := by decide +kernel
theorem d12_95 : decode prog_7_method_14_code 95 = .ok (.ladd, 1) := by decide +kernel
theorem d12_96 : decode prog_7_method_14_code 96 = .ok (.lstore 9, 2) := by decide +kernel
abbrev Sh15 (p0 : Addr) (p1 : Int32) (p2 : Addr) (p3 : Int64) (p4 : Int32) (p5 : Int64) (p6 : Int32) (p7 : Int64) : Array Slot := #[.val (.ref p0), .val (.int p1), .val (.ref p2), .val (.long p3), .second, .val (.int p4), .val (.long p5), .second, .val (.int p6), .val (.long p7), .second]
theorem d12_98 : decode prog_7_method_14_code 98 = .ok (.aload_n 2, 1) := by decide +kernel
theorem d12_99 : decode prog_7_method_14_code 99 = .ok (.iload 8, 2) := by decide +kernel
theorem d12_101 : decode prog_7_method_14_code 101 = .ok (.lload 9, 2) := by decide +kernel
theorem d12_103 : decode prog_7_method_14_code 103 = .ok (.ldc2_w 108, 3) := by decide +kernel
theorem d12_106 : decode prog_7_method_14_code 106 = .ok (.land, 1) := by decide +kernel
theorem d12_107 : decode prog_7_method_14_code 107 = .ok (.lastore, 1) := by decide +kernel
theorem d12_108 : decode prog_7_method_14_code 108 = .ok (.lload 9, 2) := by decide +kernel
theorem d12_110 : decode prog_7_method_14_code 110 = .ok (.bipush 32, 2) := by decide +kernel
theorem d12_112 : decode prog_7_method_14_code 112 = .ok (.lushr, 1) := by decide +kernel
theorem d12_113 : decode prog_7_method_14_code 113 = .ok (.lstore 6, 2) := by decide +kernel
theorem d12_115 : decode prog_7_method_14_code 115 = .ok (.iinc 8 1, 3) := by decide +kernel
theorem d12_118 : decode prog_7_method_14_code 118 = .ok (.goto (-44), 3) := by decide +kernel
theorem d12_121 : decode prog_7_method_14_code 121 = .ok (.bipush 35, 2) := by decide +kernel
theorem d12_123 : decode prog_7_method_14_code 123 = .ok (.istore 6, 2) := by decide +kernel
abbrev Sh16 (p0 : Addr) (p1 : Int32) (p2 : Addr) (p3 : Int64) (p4 : Int32) (p5 : Int32) (p6 : Int32) (p7 : Int64) : Array Slot := #[.val (.ref p0), .val (.int p1), .val (.ref p2), .val (.long p3), .second, .val (.int p4), .val (.int p5), .unset, .val (.int p6), .val (.long p7), .second]
theorem d12_125 : decode prog_7_method_14_code 125 = .ok (.iload 6, 2) := by decide +kernel
theorem d12_127 : decode prog_7_method_14_code 127 = .ok (.ifCond .lt 18, 3) := by decide +kernel
theorem d12_130 : decode prog_7_method_14_code 130 = .ok (.aload_n 2, 1) := by decide +kernel
theorem d12_131 : decode prog_7_method_14_code 131 = .ok (.iload 6, 2) := by decide +kernel
theorem d12_133 : decode prog_7_method_14_code 133 = .ok (.laload, 1) := by decide +kernel
theorem d12_134 : decode prog_7_method_14_code 134 = .ok (.lconst 0, 1) := by decide +kernel
theorem d12_135 : decode prog_7_method_14_code 135 = .ok (.lcmp, 1) := by decide +kernel
theorem d12_136 : decode prog_7_method_14_code 136 = .ok (.ifCond .ne 9, 3) := by decide +kernel
theorem d12_139 : decode prog_7_method_14_code 139 = .ok (.iinc 6 (-1), 3) := by decide +kernel
theorem d12_142 : decode prog_7_method_14_code 142 = .ok (.goto (-17), 3) := by decide +kernel
theorem d12_145 : decode prog_7_method_14_code 145 = .ok (.iload 6, 2) := by decide +kernel
theorem d12_147 : decode prog_7_method_14_code 147 = .ok (.ifCond .ge 5, 3) := by decide +kernel
theorem d12_152 : decode prog_7_method_14_code 152 = .ok (.aload_n 2, 1) := by decide +kernel
theorem d12_153 : decode prog_7_method_14_code 153 = .ok (.bipush 32, 2) := by decide +kernel
theorem d12_155 : decode prog_7_method_14_code 155 = .ok (.iload 6, 2) := by decide +kernel
theorem d12_157 : decode prog_7_method_14_code 157 = .ok (.imul, 1) := by decide +kernel
theorem d12_158 : decode prog_7_method_14_code 158 = .ok (.bipush 64, 2) := by decide +kernel
theorem d12_160 : decode prog_7_method_14_code 160 = .ok (.iadd, 1) := by decide +kernel
theorem d12_161 : decode prog_7_method_14_code 161 = .ok (.aload_n 2, 1) := by decide +kernel
theorem d12_162 : decode prog_7_method_14_code 162 = .ok (.iload 6, 2) := by decide +kernel
theorem d12_164 : decode prog_7_method_14_code 164 = .ok (.laload, 1) := by decide +kernel
theorem pd_28J29I : parseMethodDescriptor "(J)I" = some ⟨[.long], some .int⟩ := by decide +kernel
theorem d12_165 : decode prog_7_method_14_code 165 = .ok (.invokestatic 116, 3) := by decide +kernel
theorem d12_168 : decode prog_7_method_14_code 168 = .ok (.isub, 1) := by decide +kernel
theorem d12_169 : decode prog_7_method_14_code 169 = .ok (.invokestatic 121, 3) := by decide +kernel
theorem d12_172 : decode prog_7_method_14_code 172 = .ok (.invokestatic 125, 3) := by decide +kernel
theorem d12_175 : decode prog_7_method_14_code 175 = .ok (.dstore 7, 2) := by decide +kernel
abbrev Sh17 (p0 : Addr) (p1 : Int32) (p2 : Addr) (p3 : Int64) (p4 : Int32) (p5 : Int32) (p6 : UInt64) (p7 : Int64) : Array Slot := #[.val (.ref p0), .val (.int p1), .val (.ref p2), .val (.long p3), .second, .val (.int p4), .val (.int p5), .val (.double p6), .second, .val (.long p7), .second]
theorem d12_177 : decode prog_7_method_14_code 177 = .ok (.iload 5, 2) := by decide +kernel
theorem d12_179 : decode prog_7_method_14_code 179 = .ok (.ifCond .eq 9, 3) := by decide +kernel
theorem d12_182 : decode prog_7_method_14_code 182 = .ok (.dload 7, 2) := by decide +kernel
theorem d12_184 : decode prog_7_method_14_code 184 = .ok (.dneg, 1) := by decide +kernel
theorem d12_185 : decode prog_7_method_14_code 185 = .ok (.goto 5, 3) := by decide +kernel
theorem d12_190 : decode prog_7_method_14_code 190 = .ok (.dreturn, 1) := by decide +kernel
theorem d12_60 : decode prog_7_method_14_code 60 = .ok (.iconst 0, 1) := by decide +kernel
abbrev Sh18 (p0 : Addr) (p1 : Int32) (p2 : Addr) (p3 : Int64) (p4 : Int32) (p5 : Int32) : Array Slot := #[.val (.ref p0), .val (.int p1), .val (.ref p2), .val (.long p3), .second, .val (.int p4), .val (.int p5), .unset, .unset, .unset, .unset]
theorem d12_150 : decode prog_7_method_14_code 150 = .ok (.dconst 0, 1) := by decide +kernel
theorem d12_151 : decode prog_7_method_14_code 151 = .ok (.dreturn, 1) := by decide +kernel
abbrev Sh19 (p0 : Addr) (p1 : Int32) (p2 : Addr) (p3 : Int64) (p4 : Int32) (p5 : Int32) (p6 : UInt64) : Array Slot := #[.val (.ref p0), .val (.int p1), .val (.ref p2), .val (.long p3), .second, .val (.int p4), .val (.int p5), .val (.double p6), .second, .unset, .unset]
theorem d12_188 : decode prog_7_method_14_code 188 = .ok (.dload 7, 2) := by decide +kernel
abbrev Y12 : MethodName := ⟨"com/example/nearterm/nearterm/embedding/ExactSums", "rounded", "(I[J)D"⟩
abbrev Sh20 (p0 : Addr) : Array Slot := #[.val (.ref p0), .unset, .unset, .unset]
theorem d11_0 : decode prog_7_method_13_code 0 = .ok (.bipush 36, 2) := by decide +kernel
theorem d11_2 : decode prog_7_method_13_code 2 = .ok (.newarray .long, 2) := by decide +kernel
theorem d11_4 : decode prog_7_method_13_code 4 = .ok (.astore_n 1, 1) := by decide +kernel
abbrev Sh21 (p0 : Addr) (p1 : Addr) : Array Slot := #[.val (.ref p0), .val (.ref p1), .unset, .unset]
theorem d11_5 : decode prog_7_method_13_code 5 = .ok (.aload_n 0, 1) := by decide +kernel
theorem d11_6 : decode prog_7_method_13_code 6 = .ok (.getfield 15, 3) := by decide +kernel
theorem d11_9 : decode prog_7_method_13_code 9 = .ok (.arraylength, 1) := by decide +kernel
theorem d11_10 : decode prog_7_method_13_code 10 = .ok (.bipush 36, 2) := by decide +kernel
theorem d11_12 : decode prog_7_method_13_code 12 = .ok (.idiv, 1) := by decide +kernel
theorem d11_13 : decode prog_7_method_13_code 13 = .ok (.newarray .double, 2) := by decide +kernel
theorem d11_15 : decode prog_7_method_13_code 15 = .ok (.astore_n 2, 1) := by decide +kernel
abbrev Sh22 (p0 : Addr) (p1 : Addr) (p2 : Addr) : Array Slot := #[.val (.ref p0), .val (.ref p1), .val (.ref p2), .unset]
theorem d11_16 : decode prog_7_method_13_code 16 = .ok (.iconst 0, 1) := by decide +kernel
theorem d11_17 : decode prog_7_method_13_code 17 = .ok (.istore_n 3, 1) := by decide +kernel
abbrev Sh23 (p0 : Addr) (p1 : Addr) (p2 : Addr) (p3 : Int32) : Array Slot := #[.val (.ref p0), .val (.ref p1), .val (.ref p2), .val (.int p3)]
theorem d11_18 : decode prog_7_method_13_code 18 = .ok (.iload_n 3, 1) := by decide +kernel
theorem d11_19 : decode prog_7_method_13_code 19 = .ok (.aload_n 2, 1) := by decide +kernel
theorem d11_20 : decode prog_7_method_13_code 20 = .ok (.arraylength, 1) := by decide +kernel
theorem d11_21 : decode prog_7_method_13_code 21 = .ok (.if_icmp .ge 18, 3) := by decide +kernel
theorem d11_24 : decode prog_7_method_13_code 24 = .ok (.aload_n 2, 1) := by decide +kernel
theorem d11_25 : decode prog_7_method_13_code 25 = .ok (.iload_n 3, 1) := by decide +kernel
theorem d11_26 : decode prog_7_method_13_code 26 = .ok (.aload_n 0, 1) := by decide +kernel
theorem d11_27 : decode prog_7_method_13_code 27 = .ok (.iload_n 3, 1) := by decide +kernel
theorem d11_28 : decode prog_7_method_13_code 28 = .ok (.aload_n 1, 1) := by decide +kernel
theorem pd_28I5bJ29D : parseMethodDescriptor "(I[J)D" = some ⟨[.int, (.array .long)], some .double⟩ := by decide +kernel
theorem d11_29 : decode prog_7_method_13_code 29 = .ok (.invokevirtual 110, 3) := by decide +kernel
theorem d11_32 : decode prog_7_method_13_code 32 = .ok (.dastore, 1) := by decide +kernel
theorem d11_33 : decode prog_7_method_13_code 33 = .ok (.iinc 3 1, 3) := by decide +kernel
theorem d11_36 : decode prog_7_method_13_code 36 = .ok (.goto (-18), 3) := by decide +kernel
theorem d11_39 : decode prog_7_method_13_code 39 = .ok (.aload_n 2, 1) := by decide +kernel
theorem d11_40 : decode prog_7_method_13_code 40 = .ok (.areturn, 1) := by decide +kernel
abbrev Y11 : MethodName := ⟨"com/example/nearterm/nearterm/embedding/ExactSums", "rounded", "()[D"⟩
abbrev Sh24 (p0 : Addr) (p1 : Int32) (p2 : Int32) (p3 : Int64) (p4 : Int64) : Array Slot := #[.val (.ref p0), .val (.int p1), .val (.int p2), .val (.long p3), .second, .val (.long p4), .second, .unset, .unset, .unset, .unset, .unset, .unset]
theorem d9_0 : decode prog_7_method_10_code 0 = .ok (.iload_n 1, 1) := by decide +kernel
theorem d9_1 : decode prog_7_method_10_code 1 = .ok (.bipush 36, 2) := by decide +kernel
theorem d9_3 : decode prog_7_method_10_code 3 = .ok (.imul, 1) := by decide +kernel
theorem d9_4 : decode prog_7_method_10_code 4 = .ok (.iload_n 2, 1) := by decide +kernel
theorem d9_5 : decode prog_7_method_10_code 5 = .ok (.iconst 5, 1) := by decide +kernel
theorem d9_6 : decode prog_7_method_10_code 6 = .ok (.iushr, 1) := by decide +kernel
theorem d9_7 : decode prog_7_method_10_code 7 = .ok (.iadd, 1) := by decide +kernel
theorem d9_8 : decode prog_7_method_10_code 8 = .ok (.istore 7, 2) := by decide +kernel
abbrev Sh25 (p0 : Addr) (p1 : Int32) (p2 : Int32) (p3 : Int64) (p4 : Int64) (p5 : Int32) : Array Slot := #[.val (.ref p0), .val (.int p1), .val (.int p2), .val (.long p3), .second, .val (.long p4), .second, .val (.int p5), .unset, .unset, .unset, .unset, .unset]
theorem d9_10 : decode prog_7_method_10_code 10 = .ok (.iload_n 2, 1) := by decide +kernel
theorem d9_11 : decode prog_7_method_10_code 11 = .ok (.bipush 31, 2) := by decide +kernel
theorem d9_13 : decode prog_7_method_10_code 13 = .ok (.iand, 1) := by decide +kernel
theorem d9_14 : decode prog_7_method_10_code 14 = .ok (.istore 8, 2) := by decide +kernel
abbrev Sh26 (p0 : Addr) (p1 : Int32) (p2 : Int32) (p3 : Int64) (p4 : Int64) (p5 : Int32) (p6 : Int32) : Array Slot := #[.val (.ref p0), .val (.int p1), .val (.int p2), .val (.long p3), .second, .val (.long p4), .second, .val (.int p5), .val (.int p6), .unset, .unset, .unset, .unset]
theorem d9_16 : decode prog_7_method_10_code 16 = .ok (.lload_n 3, 1) := by decide +kernel
theorem d9_17 : decode prog_7_method_10_code 17 = .ok (.iload 8, 2) := by decide +kernel
theorem d9_19 : decode prog_7_method_10_code 19 = .ok (.lshl, 1) := by decide +kernel
theorem d9_20 : decode prog_7_method_10_code 20 = .ok (.lstore 9, 2) := by decide +kernel
abbrev Sh27 (p0 : Addr) (p1 : Int32) (p2 : Int32) (p3 : Int64) (p4 : Int64) (p5 : Int32) (p6 : Int32) (p7 : Int64) : Array Slot := #[.val (.ref p0), .val (.int p1), .val (.int p2), .val (.long p3), .second, .val (.long p4), .second, .val (.int p5), .val (.int p6), .val (.long p7), .second, .unset, .unset]
theorem d9_22 : decode prog_7_method_10_code 22 = .ok (.lload_n 3, 1) := by decide +kernel
theorem d9_23 : decode prog_7_method_10_code 23 = .ok (.iconst 1, 1) := by decide +kernel
theorem d9_24 : decode prog_7_method_10_code 24 = .ok (.lushr, 1) := by decide +kernel
theorem d9_25 : decode prog_7_method_10_code 25 = .ok (.bipush 63, 2) := by decide +kernel
theorem d9_27 : decode prog_7_method_10_code 27 = .ok (.iload 8, 2) := by decide +kernel
theorem d9_29 : decode prog_7_method_10_code 29 = .ok (.isub, 1) := by decide +kernel
theorem d9_30 : decode prog_7_method_10_code 30 = .ok (.lushr, 1) := by decide +kernel
theorem d9_31 : decode prog_7_method_10_code 31 = .ok (.lstore 11, 2) := by decide +kernel
abbrev Sh28 (p0 : Addr) (p1 : Int32) (p2 : Int32) (p3 : Int64) (p4 : Int64) (p5 : Int32) (p6 : Int32) (p7 : Int64) (p8 : Int64) : Array Slot := #[.val (.ref p0), .val (.int p1), .val (.int p2), .val (.long p3), .second, .val (.long p4), .second, .val (.int p5), .val (.int p6), .val (.long p7), .second, .val (.long p8), .second]
theorem d9_33 : decode prog_7_method_10_code 33 = .ok (.aload_n 0, 1) := by decide +kernel
theorem d9_34 : decode prog_7_method_10_code 34 = .ok (.getfield 15, 3) := by decide +kernel
theorem d9_37 : decode prog_7_method_10_code 37 = .ok (.iload 7, 2) := by decide +kernel
theorem d9_39 : decode prog_7_method_10_code 39 = .ok (.dup2, 1) := by decide +kernel
theorem d9_40 : decode prog_7_method_10_code 40 = .ok (.laload, 1) := by decide +kernel
theorem d9_41 : decode prog_7_method_10_code 41 = .ok (.lload 9, 2) := by decide +kernel
theorem d9_43 : decode prog_7_method_10_code 43 = .ok (.ldc2_w 108, 3) := by decide +kernel
theorem d9_46 : decode prog_7_method_10_code 46 = .ok (.land, 1) := by decide +kernel
theorem d9_47 : decode prog_7_method_10_code 47 = .ok (.lload 5, 2) := by decide +kernel
theorem d9_49 : decode prog_7_method_10_code 49 = .ok (.lxor, 1) := by decide +kernel
theorem d9_50 : decode prog_7_method_10_code 50 = .ok (.lload 5, 2) := by decide +kernel
theorem d9_52 : decode prog_7_method_10_code 52 = .ok (.lsub, 1) := by decide +kernel
theorem d9_53 : decode prog_7_method_10_code 53 = .ok (.ladd, 1) := by decide +kernel
theorem d9_54 : decode prog_7_method_10_code 54 = .ok (.lastore, 1) := by decide +kernel
theorem d9_55 : decode prog_7_method_10_code 55 = .ok (.aload_n 0, 1) := by decide +kernel
theorem d9_56 : decode prog_7_method_10_code 56 = .ok (.getfield 15, 3) := by decide +kernel
theorem d9_59 : decode prog_7_method_10_code 59 = .ok (.iload 7, 2) := by decide +kernel
theorem d9_61 : decode prog_7_method_10_code 61 = .ok (.iconst 1, 1) := by decide +kernel
theorem d9_62 : decode prog_7_method_10_code 62 = .ok (.iadd, 1) := by decide +kernel
theorem d9_63 : decode prog_7_method_10_code 63 = .ok (.dup2, 1) := by decide +kernel
theorem d9_64 : decode prog_7_method_10_code 64 = .ok (.laload, 1) := by decide +kernel
theorem d9_65 : decode prog_7_method_10_code 65 = .ok (.lload 9, 2) := by decide +kernel
theorem d9_67 : decode prog_7_method_10_code 67 = .ok (.bipush 32, 2) := by decide +kernel
theorem d9_69 : decode prog_7_method_10_code 69 = .ok (.lushr, 1) := by decide +kernel
theorem d9_70 : decode prog_7_method_10_code 70 = .ok (.lload 5, 2) := by decide +kernel
theorem d9_72 : decode prog_7_method_10_code 72 = .ok (.lxor, 1) := by decide +kernel
theorem d9_73 : decode prog_7_method_10_code 73 = .ok (.lload 5, 2) := by decide +kernel
theorem d9_75 : decode prog_7_method_10_code 75 = .ok (.lsub, 1) := by decide +kernel
theorem d9_76 : decode prog_7_method_10_code 76 = .ok (.ladd, 1) := by decide +kernel
theorem d9_77 : decode prog_7_method_10_code 77 = .ok (.lastore, 1) := by decide +kernel
theorem d9_78 : decode prog_7_method_10_code 78 = .ok (.aload_n 0, 1) := by decide +kernel
theorem d9_79 : decode prog_7_method_10_code 79 = .ok (.getfield 15, 3) := by decide +kernel
theorem d9_82 : decode prog_7_method_10_code 82 = .ok (.iload 7, 2) := by decide +kernel
theorem d9_84 : decode prog_7_method_10_code 84 = .ok (.iconst 2, 1) := by decide +kernel
theorem d9_85 : decode prog_7_method_10_code 85 = .ok (.iadd, 1) := by decide +kernel
theorem d9_86 : decode prog_7_method_10_code 86 = .ok (.dup2, 1) := by decide +kernel
theorem d9_87 : decode prog_7_method_10_code 87 = .ok (.laload, 1) := by decide +kernel
theorem d9_88 : decode prog_7_method_10_code 88 = .ok (.lload 11, 2) := by decide +kernel
theorem d9_90 : decode prog_7_method_10_code 90 = .ok (.lload 5, 2) := by decide +kernel
theorem d9_92 : decode prog_7_method_10_code 92 = .ok (.lxor, 1) := by decide +kernel
theorem d9_93 : decode prog_7_method_10_code 93 = .ok (.lload 5, 2) := by decide +kernel
theorem d9_95 : decode prog_7_method_10_code 95 = .ok (.lsub, 1) := by decide +kernel
theorem d9_96 : decode prog_7_method_10_code 96 = .ok (.ladd, 1) := by decide +kernel
theorem d9_97 : decode prog_7_method_10_code 97 = .ok (.lastore, 1) := by decide +kernel
theorem d9_98 : decode prog_7_method_10_code 98 = .ok (.return_, 1) := by decide +kernel
abbrev Y9 : MethodName := ⟨"com/example/nearterm/nearterm/embedding/ExactSums", "add", "(IIJJ)V"⟩
abbrev Sh29 (p0 : Addr) (p1 : Int32) (p2 : UInt64) : Array Slot := #[.val (.ref p0), .val (.int p1), .val (.double p2), .second, .unset, .unset, .unset]
theorem d4_0 : decode prog_7_method_4_code 0 = .ok (.dload_n 2, 1) := by decide +kernel
theorem d4_1 : decode prog_7_method_4_code 1 = .ok (.invokestatic 27, 3) := by decide +kernel
theorem d4_4 : decode prog_7_method_4_code 4 = .ok (.lstore 4, 2) := by decide +kernel
abbrev Sh30 (p0 : Addr) (p1 : Int32) (p2 : UInt64) (p3 : Int64) : Array Slot := #[.val (.ref p0), .val (.int p1), .val (.double p2), .second, .val (.long p3), .second, .unset]
theorem d4_6 : decode prog_7_method_4_code 6 = .ok (.lload 4, 2) := by decide +kernel
theorem d4_8 : decode prog_7_method_4_code 8 = .ok (.invokestatic 33, 3) := by decide +kernel
theorem d4_11 : decode prog_7_method_4_code 11 = .ok (.istore 6, 2) := by decide +kernel
abbrev Sh31 (p0 : Addr) (p1 : Int32) (p2 : UInt64) (p3 : Int64) (p4 : Int32) : Array Slot := #[.val (.ref p0), .val (.int p1), .val (.double p2), .second, .val (.long p3), .second, .val (.int p4)]
theorem d4_13 : decode prog_7_method_4_code 13 = .ok (.iload 6, 2) := by decide +kernel
theorem d4_15 : decode prog_7_method_4_code 15 = .ok (.sipush 1054, 3) := by decide +kernel
theorem d4_18 : decode prog_7_method_4_code 18 = .ok (.if_icmp .le 8, 3) := by decide +kernel
theorem d4_26 : decode prog_7_method_4_code 26 = .ok (.aload_n 0, 1) := by decide +kernel
theorem d4_27 : decode prog_7_method_4_code 27 = .ok (.iload_n 1, 1) := by decide +kernel
theorem d4_28 : decode prog_7_method_4_code 28 = .ok (.iload 6, 2) := by decide +kernel
theorem d4_30 : decode prog_7_method_4_code 30 = .ok (.invokestatic 41, 3) := by decide +kernel
theorem d4_33 : decode prog_7_method_4_code 33 = .ok (.lload 4, 2) := by decide +kernel
theorem d4_35 : decode prog_7_method_4_code 35 = .ok (.iload 6, 2) := by decide +kernel
theorem pd_28JI29J : parseMethodDescriptor "(JI)J" = some ⟨[.long, .int], some .long⟩ := by decide +kernel
theorem d4_37 : decode prog_7_method_4_code 37 = .ok (.invokestatic 45, 3) := by decide +kernel
theorem d4_40 : decode prog_7_method_4_code 40 = .ok (.lload 4, 2) := by decide +kernel
theorem d4_42 : decode prog_7_method_4_code 42 = .ok (.bipush 63, 2) := by decide +kernel
theorem d4_44 : decode prog_7_method_4_code 44 = .ok (.lshr, 1) := by decide +kernel
theorem pd_28IIJJ29V : parseMethodDescriptor "(IIJJ)V" = some ⟨[.int, .int, .long, .long], none⟩ := by decide +kernel
theorem d4_45 : decode prog_7_method_4_code 45 = .ok (.invokevirtual 49, 3) := by decide +kernel
theorem d4_48 : decode prog_7_method_4_code 48 = .ok (.return_, 1) := by decide +kernel
abbrev Y4 : MethodName := ⟨"com/example/nearterm/nearterm/embedding/ExactSums", "add", "(ID)V"⟩
abbrev Sh32 (p0 : Addr) (p1 : Addr) : Array Slot := #[.val (.ref p0), .val (.ref p1), .unset]
theorem d10_0 : decode prog_7_method_11_code 0 = .ok (.iconst 0, 1) := by decide +kernel
theorem d10_1 : decode prog_7_method_11_code 1 = .ok (.istore_n 2, 1) := by decide +kernel
abbrev Sh33 (p0 : Addr) (p1 : Addr) (p2 : Int32) : Array Slot := #[.val (.ref p0), .val (.ref p1), .val (.int p2)]
theorem d10_2 : decode prog_7_method_11_code 2 = .ok (.iload_n 2, 1) := by decide +kernel
theorem d10_3 : decode prog_7_method_11_code 3 = .ok (.aload_n 0, 1) := by decide +kernel
theorem d10_4 : decode prog_7_method_11_code 4 = .ok (.getfield 15, 3) := by decide +kernel
theorem d10_7 : decode prog_7_method_11_code 7 = .ok (.arraylength, 1) := by decide +kernel
theorem d10_8 : decode prog_7_method_11_code 8 = .ok (.if_icmp .ge 24, 3) := by decide +kernel
theorem d10_32 : decode prog_7_method_11_code 32 = .ok (.return_, 1) := by decide +kernel
theorem d10_11 : decode prog_7_method_11_code 11 = .ok (.aload_n 0, 1) := by decide +kernel
theorem d10_12 : decode prog_7_method_11_code 12 = .ok (.getfield 15, 3) := by decide +kernel
theorem d10_15 : decode prog_7_method_11_code 15 = .ok (.iload_n 2, 1) := by decide +kernel
theorem d10_16 : decode prog_7_method_11_code 16 = .ok (.dup2, 1) := by decide +kernel
theorem d10_17 : decode prog_7_method_11_code 17 = .ok (.laload, 1) := by decide +kernel
theorem d10_18 : decode prog_7_method_11_code 18 = .ok (.aload_n 1, 1) := by decide +kernel
theorem d10_19 : decode prog_7_method_11_code 19 = .ok (.getfield 15, 3) := by decide +kernel
theorem d10_22 : decode prog_7_method_11_code 22 = .ok (.iload_n 2, 1) := by decide +kernel
theorem d10_23 : decode prog_7_method_11_code 23 = .ok (.laload, 1) := by decide +kernel
theorem d10_24 : decode prog_7_method_11_code 24 = .ok (.ladd, 1) := by decide +kernel
theorem d10_25 : decode prog_7_method_11_code 25 = .ok (.lastore, 1) := by decide +kernel
theorem d10_26 : decode prog_7_method_11_code 26 = .ok (.iinc 2 1, 3) := by decide +kernel
theorem d10_29 : decode prog_7_method_11_code 29 = .ok (.goto (-27), 3) := by decide +kernel
abbrev Y10 : MethodName := ⟨"com/example/nearterm/nearterm/embedding/ExactSums", "addAll", "(Lcom/example/nearterm/nearterm/embedding/ExactSums;)V"⟩
theorem pn_com_example_nearterm_nearterm_embedding_ExactSumsAddAllPinLaw : plainName "com/example/nearterm/nearterm/embedding/ExactSumsAddAllPinLaw" = true := by first | (simp [plainName, overriddenIn]; done) | decide +kernel
abbrev Sh34 (p0 : Int32) (p1 : Int32) (p2 : Int32) (p3 : Int32) : Array Slot := #[.val (.int p0), .val (.int p1), .val (.int p2), .val (.int p3), .unset, .unset, .unset, .unset, .unset, .unset, .unset, .unset]
theorem d1_0 : decode prog_7_method_1_code 0 = .ok (.aload_n 0, 1) := by decide +kernel
theorem d1_1 : decode prog_7_method_1_code 1 = .ok (.invokespecial 3, 3) := by decide +kernel
theorem d1_4 : decode prog_7_method_1_code 4 = .ok (.aload_n 0, 1) := by decide +kernel
theorem d1_5 : decode prog_7_method_1_code 5 = .ok (.iload_n 1, 1) := by decide +kernel
theorem d1_6 : decode prog_7_method_1_code 6 = .ok (.bipush 36, 2) := by decide +kernel
abbrev Sh35 (p0 : Int32) (p1 : Int32) : Array Slot := #[.val (.int p0), .val (.int p1), .unset, .unset]
theorem d3_0 : decode jdk_29_method_28_code 0 = .ok (.iload_n 0, 1) := by decide +kernel
theorem d3_1 : decode jdk_29_method_28_code 1 = .ok (.i2l, 1) := by decide +kernel
theorem d3_2 : decode jdk_29_method_28_code 2 = .ok (.iload_n 1, 1) := by decide +kernel
theorem d3_3 : decode jdk_29_method_28_code 3 = .ok (.i2l, 1) := by decide +kernel
theorem d3_4 : decode jdk_29_method_28_code 4 = .ok (.lmul, 1) := by decide +kernel
theorem d3_5 : decode jdk_29_method_28_code 5 = .ok (.lstore_n 2, 1) := by decide +kernel
abbrev Sh36 (p0 : Int32) (p1 : Int32) (p2 : Int64) : Array Slot := #[.val (.int p0), .val (.int p1), .val (.long p2), .second]
theorem d3_6 : decode jdk_29_method_28_code 6 = .ok (.lload_n 2, 1) := by decide +kernel
theorem d3_7 : decode jdk_29_method_28_code 7 = .ok (.l2i, 1) := by decide +kernel
theorem d3_8 : decode jdk_29_method_28_code 8 = .ok (.i2l, 1) := by decide +kernel
theorem d3_9 : decode jdk_29_method_28_code 9 = .ok (.lload_n 2, 1) := by decide +kernel
theorem d3_10 : decode jdk_29_method_28_code 10 = .ok (.lcmp, 1) := by decide +kernel
theorem d3_11 : decode jdk_29_method_28_code 11 = .ok (.ifCond .eq 13, 3) := by decide +kernel
theorem d3_24 : decode jdk_29_method_28_code 24 = .ok (.lload_n 2, 1) := by decide +kernel
theorem d3_25 : decode jdk_29_method_28_code 25 = .ok (.l2i, 1) := by decide +kernel
theorem d3_26 : decode jdk_29_method_28_code 26 = .ok (.ireturn, 1) := by decide +kernel
abbrev Y3 : MethodName := ⟨"java/lang/Math", "multiplyExact", "(II)I"⟩
theorem d1_8 : decode prog_7_method_1_code 8 = .ok (.invokestatic 9, 3) := by decide +kernel
theorem d1_11 : decode prog_7_method_1_code 11 = .ok (.newarray .long, 2) := by decide +kernel
theorem d1_13 : decode prog_7_method_1_code 13 = .ok (.putfield 15, 3) := by decide +kernel
theorem d1_16 : decode prog_7_method_1_code 16 = .ok (.return_, 1) := by decide +kernel
abbrev Y1 : MethodName := ⟨"com/example/nearterm/nearterm/embedding/ExactSums", "<init>", "(I)V"⟩
theorem pd_28I29V : parseMethodDescriptor "(I)V" = some ⟨[.int], none⟩ := by decide +kernel
abbrev Sh37 (p0 : Int32) (p1 : Int32) (p2 : Int32) (p3 : Int32) (p4 : Addr) : Array Slot := #[.val (.int p0), .val (.int p1), .val (.int p2), .val (.int p3), .val (.ref p4), .unset, .unset, .unset, .unset, .unset, .unset, .unset]
abbrev Sh38 (p0 : Int32) (p1 : Int32) (p2 : Int32) (p3 : Int32) (p4 : Addr) (p5 : Addr) : Array Slot := #[.val (.int p0), .val (.int p1), .val (.int p2), .val (.int p3), .val (.ref p4), .val (.ref p5), .unset, .unset, .unset, .unset, .unset, .unset]
theorem pd_28ID29V : parseMethodDescriptor "(ID)V" = some ⟨[.int, .double], none⟩ := by decide +kernel
theorem pd_28Lcom2fexample2fnearterm2fnearterm2fembedding2fExactSums3b29V : parseMethodDescriptor "(Lcom/example/nearterm/nearterm/embedding/ExactSums;)V" = some ⟨[(.object "com/example/nearterm/nearterm/embedding/ExactSums")], none⟩ := by decide +kernel
theorem pd_28295bD : parseMethodDescriptor "()[D" = some ⟨[], some (.array .double)⟩ := by decide +kernel
abbrev Sh39 (p0 : Int32) (p1 : Int32) (p2 : Int32) (p3 : Int32) (p4 : Addr) (p5 : Addr) (p6 : Addr) : Array Slot := #[.val (.int p0), .val (.int p1), .val (.int p2), .val (.int p3), .val (.ref p4), .val (.ref p5), .val (.ref p6), .unset, .unset, .unset, .unset, .unset]
abbrev Sh40 (p0 : Int32) (p1 : Int32) (p2 : Int32) (p3 : Int32) (p4 : Addr) (p5 : Addr) (p6 : Addr) (p7 : Addr) : Array Slot := #[.val (.int p0), .val (.int p1), .val (.int p2), .val (.int p3), .val (.ref p4), .val (.ref p5), .val (.ref p6), .val (.ref p7), .unset, .unset, .unset, .unset]
abbrev Sh41 (p0 : Int32) (p1 : Int32) (p2 : Int32) (p3 : Int32) (p4 : Addr) (p5 : Addr) (p6 : Addr) (p7 : Addr) (p8 : UInt64) : Array Slot := #[.val (.int p0), .val (.int p1), .val (.int p2), .val (.int p3), .val (.ref p4), .val (.ref p5), .val (.ref p6), .val (.ref p7), .val (.double p8), .second, .unset, .unset]
abbrev Sh42 (p0 : Int32) (p1 : Int32) (p2 : Int32) (p3 : Int32) (p4 : Addr) (p5 : Addr) (p6 : Addr) (p7 : Addr) (p8 : UInt64) (p9 : UInt64) : Array Slot := #[.val (.int p0), .val (.int p1), .val (.int p2), .val (.int p3), .val (.ref p4), .val (.ref p5), .val (.ref p6), .val (.ref p7), .val (.double p8), .second, .val (.double p9), .second]
def Ix (N j : Int32) (i : Nat) : Prop := ¬ j < 0 ∧ j.toNatClampNeg = i ∧ i < N.toNatClampNeg
def up (f : Nat → Int64) (i : Nat) (v : Int64) : Nat → Int64 := fun t => if t = i then v else f t
def Lon (Z : State) (h : Heap) (a : Addr) (k : ClassId) (N : Int32) (f : Nat → Int64) : Prop := ∃ c : Cell, Arr Z h a c .long ∧ c.cls = k ∧ c.slots.size = N.toNatClampNeg ∧ ¬ N < 0 ∧ ∀ i, i < c.slots.size → c.slots[i]? = some (.long (f i))
section Lon
variable {Z : State} {h h' : Heap} {a b : Addr} {k : ClassId} {N : Int32} {f g : Nat → Int64} {sl : Nat} {v : Value} {ws : List Addr}
theorem Lon.lt (F : Lon Z h a k N f) : a < h.size := by obtain ⟨c, A, -⟩ := F; exact A.lt
theorem Lon.ext (F : Lon Z h a k N f) (E : Ext h h') : Lon Z h' a k N f := by obtain ⟨c, A, r⟩ := F; exact ⟨c, A.ext E, r⟩
theorem Lon.other (F : Lon Z h b k N f) (W : Wr h h' a sl v) (q : b ≠ a) : Lon Z h' b k N f := by obtain ⟨c, A, r⟩ := F; exact ⟨c, A.other W q, r⟩
theorem Lon.keep (F : Lon Z h a k N f) (K : Keep h h' ws) (q : a ∉ ws) : Lon Z h' a k N f := by obtain ⟨c, A, r⟩ := F; exact ⟨c, ⟨K.2.1 a c A.1 q, A.2⟩, r⟩
theorem Lon.cong (F : Lon Z h a k N f) (q : ∀ i, i < N.toNatClampNeg → f i = g i) : Lon Z h a k N g := by
  obtain ⟨c, A, r1, r2, r3, H⟩ := F
  exact ⟨c, A, r1, r2, r3, fun i hi => by rw [H i hi, q i (by rw [← r2]; exact hi)]⟩
theorem Lon.new (A : Arr Z h a (newA k .long N) .long) (q : ¬ N < 0) : Lon Z h a k N (fun _ => 0) := ⟨_, A, rfl, sz_new _ _ _, q, fun i hi => by
  rw [sz_new] at hi; simp [newA, hi, defaultValue]⟩
theorem own_nsL (F : Lon Z h a k N f) : NSt h a := fun c hc => by
  obtain ⟨cl, A, -⟩ := F
  cases hc.symm.trans A.1
  exact A.plain
variable {p : Program} {l : Launch} {e : Env} {R : Room} {s : State} {m : MethodId} {args : Array Value} {below : List Frame} {meth : Method} {c : Code} {T : State} {locs : List Loc} {cells slots : Nat}
theorem own_ldL (X : Stand p l e R s m args below meth c T locs cells slots) (hx : p.tables.exec = Jvm.exec) (hZ : Z.Warmed39 s.vm) (eT : T.heap = h) (F : Lon Z h a k N f) {j : Int32} {i : Nat} (I : Ix N j i) {g : JFrame} (hg : g.method = m) {rest : List Value} (hs : g.stack = .int j :: .ref a :: rest) (hd : decode c.code g.pc = .ok (.laload, 1)) (target : State)
    (hr : Steps p.tables e below (T.setTop { g with pc := g.pc + 1, stack := .long (f i) :: rest }) target) : Steps p.tables e below (T.setTop g) target := by
  obtain ⟨cl, A, r1, r2, r3, H⟩ := F
  obtain ⟨i1, i2, i3⟩ := I
  have hin : ¬ (j < 0 ∨ cl.slots.size ≤ j.toNatClampNeg) := by rw [r2, i2]; exact fun q => q.elim i1 (fun r => by omega)
  exact X.laload hx (hq_ eT A.1) (State.isArrayOf_alike hZ.alike A.2.1) A.2.2 hin (by rw [i2]; exact H i (by rw [r2]; exact i3)) hg hs hd target hr
theorem own_stL (X : Stand p l e R s m args below meth c T locs cells slots) (hx : p.tables.exec = Jvm.exec) (hZ : Z.Warmed39 s.vm) (eT : T.heap = h) (F : Lon Z h a k N f) {j : Int32} {i : Nat} {x : Int64} (I : Ix N j i) {g : JFrame} (hg : g.method = m) {rest : List Value} (hs : g.stack = .long x :: .int j :: .ref a :: rest) (hd : decode c.code g.pc = .ok (.lastore, 1)) :
    ∃ T' h', Stand p l e R s m args below meth c T' (locs ++ [⟨a, j.toNatClampNeg⟩]) cells slots ∧ T'.heap = h' ∧ Wr h h' a j.toNatClampNeg (.long x) ∧ Lon Z h' a k N (up f i x) ∧ ∀ target, Steps p.tables e below (T'.setTop { g with pc := g.pc + 1, stack := rest }) target → Steps p.tables e below (T.setTop g) target := by
  obtain ⟨cl, A, r1, r2, r3, H⟩ := F
  obtain ⟨i1, i2, i3⟩ := I
  have hin : ¬ (j < 0 ∨ cl.slots.size ≤ j.toNatClampNeg) := by rw [r2, i2]; exact fun q => q.elim i1 (fun r => by omega)
  obtain ⟨T', h', X', e', W, st⟩ := stJ X hx hZ eT A hin hg hs hd
  refine ⟨T', h', X', e', W, ⟨_, A.same W, r1, by rw [sz_set]; exact r2, r3, fun t ht => ?_⟩, st⟩
  rw [sz_set] at ht; rw [i2]; unfold up
  by_cases u : t = i
  · subst u; rw [if_pos rfl]; simp [Cell.setSlot, ht]
  · rw [if_neg u, ← H t ht]; exact Array.getElem?_setIfInBounds_ne (Ne.symm u)
theorem own_lenL (X : Stand p l e R s m args below meth c T locs cells slots) (hx : p.tables.exec = Jvm.exec) (hZ : Z.Warmed39 s.vm) (eT : T.heap = h) (F : Lon Z h a k N f) {g : JFrame} (hg : g.method = m) {rest : List Value} (hs : g.stack = .ref a :: rest) (hd : decode c.code g.pc = .ok (.arraylength, 1)) (target : State)
    (hr : Steps p.tables e below (T.setTop { g with pc := g.pc + 1, stack := .int N :: rest }) target) : Steps p.tables e below (T.setTop g) target := by
  obtain ⟨cl, A, r1, r2, r3, H⟩ := F
  have st := X.arraylength hx (hq_ eT A.1) (State.isArrayOf_alike hZ.alike A.2.1) hg hs hd
  rw [len_of r2 r3] at st
  exact st target hr
end Lon
theorem own_inc (i : Nat) : (Int32.ofNat i + (1 : Int32)) = Int32.ofNat (i + 1) := by
  rw [Int32.ofNat_add]; rfl
theorem own_oN {i : Nat} (h : i < 2 ^ 31) : (Int32.ofNat i).toInt = i := Int32.toInt_ofNat_of_lt h
theorem own_ixN {N : Int32} {n i : Nat} (hN : N.toNatClampNeg = n) (hn : n < 2 ^ 31) (h : i < n) : Ix N (Int32.ofNat i) i := by
  have q := own_oN (i := i) (by omega)
  refine ⟨?_, ?_, by omega⟩
  · rw [Int32.lt_iff_toInt_lt, q]; simp
  · unfold Int32.toNatClampNeg; rw [q]; omega
theorem own_ltN {n i : Nat} (hn : n < 2 ^ 31) (h : i < n) : Int32.ofNat i < Int32.ofNat n := by
  rw [Int32.lt_iff_toInt_lt, own_oN (by omega), own_oN hn]; omega
def F5 (q1 : Int64) : Int32 := ((q1.toUInt64 >>> ((52 : Int32) &&& 0x3f).toInt64.toUInt64).toInt64.toInt32 &&& (2047 : Int32))
theorem rm5 (l : Launch) (Z : State) (a0 : Array Value) (hw : HW a0 Z) (q1 : Int64) (h0 : Heap) (n0 : Nat) :
  MM l Z Y5 prog_7_method_6_code 2 (some .int) 0 0 0 0 #[(.long q1)] h0 (PureQ (.int (F5 q1)) h0 n0) := by
 refine own_start (fun m => (mkF m 0 #[.val (.long q1), .second] [])) (plainFor_of_name pn_com_example_nearterm_nearterm_embedding_ExactSums) (by simp [entryFrame, mkF, argsToLocals, Value.category]) n0 ?_
 intro p e s m below meth c s₁ Bd hx B hml hZ hown hnm X0 e0 N0
 refine GoW.sg (mkF m 9 #[.val (.long q1), .second] [(.int ((q1.toUInt64 >>> ((52 : Int32) &&& 0x3f).toInt64.toUInt64).toInt64.toInt32 &&& (2047 : Int32)))]) (fun t k => XS.lloadN X0.here hx rfl (B d5_0) rfl (XS.bipush X0.here hx rfl (B d5_1) (XS.lushr X0.here hx rfl (B d5_3) rfl (XS.l2i X0.here hx rfl (B d5_4) rfl (XS.sipush X0.here hx rfl (B d5_5) (XS.iand X0.here hx rfl (B d5_8) rfl k)))))) ?_
 refine GoW.retI X0 hx Bd.returns (B d5_9) Bd.notSynchronized ?_ (by decide) (by decide)
 have hq : (F5 q1) = ((q1.toUInt64 >>> ((52 : Int32) &&& 0x3f).toInt64.toUInt64).toInt64.toInt32 &&& (2047 : Int32)) := by unfold F5; try rfl
 exact ⟨by rw [hq] <;> rfl, N0, e0⟩
def F7_1 (q1 q2 b2 : Int32) : Int32 := b2
def F7 (q1 q2 : Int32) : Int32 := (F7_1 q1 q2 (if q1 < q2 then q2 else q1))
theorem rm7 (l : Launch) (Z : State) (a0 : Array Value) (hw : HW a0 Z) (q1 q2 : Int32) (h0 : Heap) (n0 : Nat) :
  MM l Z Y7 jdk_29_method_65_code 2 (some .int) 0 0 0 0 #[(.int q1), (.int q2)] h0 (PureQ (.int (F7 q1 q2)) h0 n0) := by
 refine own_start (fun m => (mkF m 0 #[.val (.int q1), .val (.int q2)] [])) (Jvm.Free.JP.mathPlain rfl (by decide +kernel)) (by simp [entryFrame, mkF, argsToLocals, Value.category]) n0 ?_
 intro p e s m below meth c s₁ Bd hx B hml hZ hown hnm X0 e0 N0
 refine GoW.sg (mkF m 2 #[.val (.int q1), .val (.int q2)] [(.int q2), (.int q1)]) (fun t k => XS.iloadN X0.here hx rfl (B d7_0) rfl (XS.iloadN X0.here hx rfl (B d7_1) rfl k)) ?_
 have J10_3 : ∀ b2 : Int32, b2 = (if q1 < q2 then q2 else q1) → GoW p e below s (PureQ (.int (F7 q1 q2)) h0 n0) 0 0 (s₁.setTop (mkF m 10 #[.val (.int q1), .val (.int q2)] [(.int b2)])) := by
  intro b2 hb2
  have hFb2 : (F7 q1 q2) = (F7_1 q1 q2 b2) := by unfold F7; rw [hb2]
  refine GoW.retI X0 hx Bd.returns (B d7_10) Bd.notSynchronized ?_ (by decide) (by decide)
  have hq : (F7 q1 q2) = b2 := by rw [hFb2]; unfold F7_1; try rfl
  exact ⟨by rw [hq] <;> rfl, N0, e0⟩
 by_cases c4 : q1 < q2
 ·refine GoW.sg (mkF m 10 #[.val (.int q1), .val (.int q2)] [(.int q2)]) (fun t k => XS.icmpYes X0.here hx rfl (pc0 := 2) (pc' := 9) rfl (B d7_2) rfl (tlt c4).1 (by decide) (by decide) (XS.iloadN X0.here hx rfl (B d7_9) rfl k)) ?_
  exact J10_3 _ (by rw [if_pos c4])
 ·refine GoW.sg (mkF m 10 #[.val (.int q1), .val (.int q2)] [(.int q1)]) (fun t k => XS.icmpNo X0.here hx rfl (B d7_2) rfl (flt c4).1 (XS.iloadN X0.here hx rfl (B d7_5) rfl (XS.goto X0.here hx rfl (pc0 := 6) (pc' := 10) rfl (B d7_6) (by decide) (by decide) k))) ?_
  exact J10_3 _ (by rw [if_neg c4])
def F6 (q1 : Int32) : Int32 := ((F7 q1 (1 : Int32)) - (1 : Int32))
theorem rm6 (l : Launch) (Z : State) (a0 : Array Value) (hw : HW a0 Z) (q1 : Int32) (h0 : Heap) (n0 : Nat) :
  MM l Z Y6 prog_7_method_8_code 1 (some .int) 1 0 0 13 #[(.int q1)] h0 (PureQ (.int (F6 q1)) h0 n0) := by
 refine own_start (fun m => (mkF m 0 #[.val (.int q1)] [])) (plainFor_of_name pn_com_example_nearterm_nearterm_embedding_ExactSums) (by simp [entryFrame, mkF, argsToLocals, Value.category]) n0 ?_
 intro p e s m below meth c s₁ Bd hx B hml hZ hown hnm X0 e0 N0
 refine GoW.sg (mkF m 2 #[.val (.int q1)] [(.int 1), (.int q1)]) (fun t k => XS.iloadN X0.here hx rfl (B d6_0) rfl (XS.iconst X0.here hx rfl (B d6_1) k)) ?_
 obtain ⟨_, T5, L5, X5, hQ5, st5⟩ := own_callS X0 hx hZ hown (y := Y7) (ww hw 31 rfl) (ww hw 32 rfl) (ww hw 11 rfl) (ww hw 33 rfl) (by decide) 0 (rm7 l Z a0 hw q1 (1 : Int32) h0 n0) (by decide) (by decide) e0 (by decide) (by decide) (g := (mkF m 2 #[.val (.int q1)] [(.int 1), (.int q1)])) rfl (by rw [hml]; rfl) (argsL := [(.int q1), (.int (1 : Int32))]) (rest := []) (lenOf pd_28II29I rfl) rfl (Nat.le_of_eq rfl) (B d6_2)
 obtain ⟨rfl, N5q, e5⟩ := hQ5
 have N5 := Fr.app N0 N5q
 refine GoW.sg (mkF m 5 #[.val (.int q1)] [(.int (F7 q1 (1 : Int32)))]) (fun t k => st5 t k) ?_
 refine GoW.sg (mkF m 7 #[.val (.int q1)] [(.int ((F7 q1 (1 : Int32)) - (1 : Int32)))]) (fun t k => XS.iconst X5.here hx rfl (B d6_5) (XS.isub X5.here hx rfl (B d6_6) rfl k)) ?_
 refine GoW.retI X5 hx Bd.returns (B d6_7) Bd.notSynchronized ?_ (by decide) (by decide)
 have hq : (F6 q1) = ((F7 q1 (1 : Int32)) - (1 : Int32)) := by unfold F6; try rfl
 exact ⟨by rw [hq] <;> rfl, N5, e5⟩
def F8 (q1 : Int64) (q2 : Int32) : Int64 := ((q1 &&& (4503599627370495 : Int64)) ||| (((-(Int32.toInt64 q2)) >>> ((63 : Int32) &&& 0x3f).toInt64) &&& (4503599627370496 : Int64)))
theorem rm8 (l : Launch) (Z : State) (a0 : Array Value) (hw : HW a0 Z) (q1 : Int64) (q2 : Int32) (h0 : Heap) (n0 : Nat) :
  MM l Z Y8 prog_7_method_7_code 3 (some .long) 0 0 0 0 #[(.long q1), (.int q2)] h0 (PureQ (.long (F8 q1 q2)) h0 n0) := by
 refine own_start (fun m => (mkF m 0 (Sh0 q1 q2) [])) (plainFor_of_name pn_com_example_nearterm_nearterm_embedding_ExactSums) (by simp [entryFrame, mkF, argsToLocals, Value.category]) n0 ?_
 intro p e s m below meth c s₁ Bd hx B hml hZ hown hnm X0 e0 N0
 refine GoW.sg (mkF m 1 (Sh0 q1 q2) [(.long q1)]) (fun t k => XS.lloadN X0.here hx rfl (B d8_0) rfl k) ?_
 refine GoW.sg (mkF m 4 (Sh0 q1 q2) [(.long 4503599627370495), (.long q1)]) (fun t k => X0.ldc2Long hx hown (mvT hZ (ww hw 37 rfl)) (g := (mkF m 1 (Sh0 q1 q2) [(.long q1)])) rfl (B d8_1) t k) ?_
 refine GoW.sg (mkF m 11 (Sh0 q1 q2) [(.long ((-(Int32.toInt64 q2)) >>> ((63 : Int32) &&& 0x3f).toInt64)), (.long (q1 &&& (4503599627370495 : Int64)))]) (fun t k => XS.land X0.here hx rfl (B d8_4) rfl (XS.iloadN X0.here hx rfl (B d8_5) rfl (XS.i2l X0.here hx rfl (B d8_6) rfl (XS.lneg X0.here hx rfl (B d8_7) rfl (XS.bipush X0.here hx rfl (B d8_8) (XS.lshr X0.here hx rfl (B d8_10) rfl k)))))) ?_
 refine GoW.sg (mkF m 14 (Sh0 q1 q2) [(.long 4503599627370496), (.long ((-(Int32.toInt64 q2)) >>> ((63 : Int32) &&& 0x3f).toInt64)), (.long (q1 &&& (4503599627370495 : Int64)))]) (fun t k => X0.ldc2Long hx hown (mvT hZ (ww hw 38 rfl)) (g := (mkF m 11 (Sh0 q1 q2) [(.long ((-(Int32.toInt64 q2)) >>> ((63 : Int32) &&& 0x3f).toInt64)), (.long (q1 &&& (4503599627370495 : Int64)))])) rfl (B d8_11) t k) ?_
 refine GoW.sg (mkF m 16 (Sh0 q1 q2) [(.long ((q1 &&& (4503599627370495 : Int64)) ||| (((-(Int32.toInt64 q2)) >>> ((63 : Int32) &&& 0x3f).toInt64) &&& (4503599627370496 : Int64))))]) (fun t k => XS.land X0.here hx rfl (B d8_14) rfl (XS.lor X0.here hx rfl (B d8_15) rfl k)) ?_
 refine GoW.retL X0 hx Bd.returns (B d8_16) Bd.notSynchronized ?_ (by decide) (by decide)
 have hq : (F8 q1 q2) = ((q1 &&& (4503599627370495 : Int64)) ||| (((-(Int32.toInt64 q2)) >>> ((63 : Int32) &&& 0x3f).toInt64) &&& (4503599627370496 : Int64))) := by unfold F8; try rfl
 exact ⟨by rw [hq] <;> rfl, N0, e0⟩
def F14 (q1 : Int32) : Int32 := (if (0 : Int32) < q1 then (if q1 < (65536 : Int32) then (if q1 < (256 : Int32) then (if q1 < (16 : Int32) then (if q1 < (4 : Int32) then ((31 : Int32) - (q1.toUInt32 >>> ((1 : Int32) &&& 31).toUInt32).toInt32) else ((29 : Int32) - ((q1.toUInt32 >>> ((2 : Int32) &&& 31).toUInt32).toInt32.toUInt32 >>> ((1 : Int32) &&& 31).toUInt32).toInt32)) else (if (q1.toUInt32 >>> ((4 : Int32) &&& 31).toUInt32).toInt32 < (4 : Int32) then ((27 : Int32) - ((q1.toUInt32 >>> ((4 : Int32) &&& 31).toUInt32).toInt32.toUInt32 >>> ((1 : Int32) &&& 31).toUInt32).toInt32) else ((25 : Int32) - (((q1.toUInt32 >>> ((4 : Int32) &&& 31).toUInt32).toInt32.toUInt32 >>> ((2 : Int32) &&& 31).toUInt32).toInt32.toUInt32 >>> ((1 : Int32) &&& 31).toUInt32).toInt32))) else (if (q1.toUInt32 >>> ((8 : Int32) &&& 31).toUInt32).toInt32 < (16 : Int32) then (if (q1.toUInt32 >>> ((8 : Int32) &&& 31).toUInt32).toInt32 < (4 : Int32) then ((23 : Int32) - ((q1.toUInt32 >>> ((8 : Int32) &&& 31).toUInt32).toInt32.toUInt32 >>> ((1 : Int32) &&& 31).toUInt32).toInt32) else ((21 : Int32) - (((q1.toUInt32 >>> ((8 : Int32) &&& 31).toUInt32).toInt32.toUInt32 >>> ((2 : Int32) &&& 31).toUInt32).toInt32.toUInt32 >>> ((1 : Int32) &&& 31).toUInt32).toInt32)) else (if ((q1.toUInt32 >>> ((8 : Int32) &&& 31).toUInt32).toInt32.toUInt32 >>> ((4 : Int32) &&& 31).toUInt32).toInt32 < (4 : Int32) then ((19 : Int32) - (((q1.toUInt32 >>> ((8 : Int32) &&& 31).toUInt32).toInt32.toUInt32 >>> ((4 : Int32) &&& 31).toUInt32).toInt32.toUInt32 >>> ((1 : Int32) &&& 31).toUInt32).toInt32) else ((17 : Int32) - ((((q1.toUInt32 >>> ((8 : Int32) &&& 31).toUInt32).toInt32.toUInt32 >>> ((4 : Int32) &&& 31).toUInt32).toInt32.toUInt32 >>> ((2 : Int32) &&& 31).toUInt32).toInt32.toUInt32 >>> ((1 : Int32) &&& 31).toUInt32).toInt32)))) else (if (q1.toUInt32 >>> ((16 : Int32) &&& 31).toUInt32).toInt32 < (256 : Int32) then (if (q1.toUInt32 >>> ((16 : Int32) &&& 31).toUInt32).toInt32 < (16 : Int32) then (if (q1.toUInt32 >>> ((16 : Int32) &&& 31).toUInt32).toInt32 < (4 : Int32) then ((15 : Int32) - ((q1.toUInt32 >>> ((16 : Int32) &&& 31).toUInt32).toInt32.toUInt32 >>> ((1 : Int32) &&& 31).toUInt32).toInt32) else ((13 : Int32) - (((q1.toUInt32 >>> ((16 : Int32) &&& 31).toUInt32).toInt32.toUInt32 >>> ((2 : Int32) &&& 31).toUInt32).toInt32.toUInt32 >>> ((1 : Int32) &&& 31).toUInt32).toInt32)) else (if ((q1.toUInt32 >>> ((16 : Int32) &&& 31).toUInt32).toInt32.toUInt32 >>> ((4 : Int32) &&& 31).toUInt32).toInt32 < (4 : Int32) then ((11 : Int32) - (((q1.toUInt32 >>> ((16 : Int32) &&& 31).toUInt32).toInt32.toUInt32 >>> ((4 : Int32) &&& 31).toUInt32).toInt32.toUInt32 >>> ((1 : Int32) &&& 31).toUInt32).toInt32) else ((9 : Int32) - ((((q1.toUInt32 >>> ((16 : Int32) &&& 31).toUInt32).toInt32.toUInt32 >>> ((4 : Int32) &&& 31).toUInt32).toInt32.toUInt32 >>> ((2 : Int32) &&& 31).toUInt32).toInt32.toUInt32 >>> ((1 : Int32) &&& 31).toUInt32).toInt32))) else (if ((q1.toUInt32 >>> ((16 : Int32) &&& 31).toUInt32).toInt32.toUInt32 >>> ((8 : Int32) &&& 31).toUInt32).toInt32 < (16 : Int32) then (if ((q1.toUInt32 >>> ((16 : Int32) &&& 31).toUInt32).toInt32.toUInt32 >>> ((8 : Int32) &&& 31).toUInt32).toInt32 < (4 : Int32) then ((7 : Int32) - (((q1.toUInt32 >>> ((16 : Int32) &&& 31).toUInt32).toInt32.toUInt32 >>> ((8 : Int32) &&& 31).toUInt32).toInt32.toUInt32 >>> ((1 : Int32) &&& 31).toUInt32).toInt32) else ((5 : Int32) - ((((q1.toUInt32 >>> ((16 : Int32) &&& 31).toUInt32).toInt32.toUInt32 >>> ((8 : Int32) &&& 31).toUInt32).toInt32.toUInt32 >>> ((2 : Int32) &&& 31).toUInt32).toInt32.toUInt32 >>> ((1 : Int32) &&& 31).toUInt32).toInt32)) else (if (((q1.toUInt32 >>> ((16 : Int32) &&& 31).toUInt32).toInt32.toUInt32 >>> ((8 : Int32) &&& 31).toUInt32).toInt32.toUInt32 >>> ((4 : Int32) &&& 31).toUInt32).toInt32 < (4 : Int32) then ((3 : Int32) - ((((q1.toUInt32 >>> ((16 : Int32) &&& 31).toUInt32).toInt32.toUInt32 >>> ((8 : Int32) &&& 31).toUInt32).toInt32.toUInt32 >>> ((4 : Int32) &&& 31).toUInt32).toInt32.toUInt32 >>> ((1 : Int32) &&& 31).toUInt32).toInt32) else ((1 : Int32) - (((((q1.toUInt32 >>> ((16 : Int32) &&& 31).toUInt32).toInt32.toUInt32 >>> ((8 : Int32) &&& 31).toUInt32).toInt32.toUInt32 >>> ((4 : Int32) &&& 31).toUInt32).toInt32.toUInt32 >>> ((2 : Int32) &&& 31).toUInt32).toInt32.toUInt32 >>> ((1 : Int32) &&& 31).toUInt32).toInt32))))) else (if q1 = (0 : Int32) then (32 : Int32) else (0 : Int32)))
theorem rm14 (l : Launch) (Z : State) (a0 : Array Value) (hw : HW a0 Z) (q1 : Int32) (h0 : Heap) (n0 : Nat) :
  MM l Z Y14 jdk_33_method_47_code 2 (some .int) 0 0 0 0 #[(.int q1)] h0 (PureQ (.int (F14 q1)) h0 n0) := by
 refine own_start (fun m => (mkF m 0 #[.val (.int q1), .unset] [])) (plainFor_of_name pn_java_lang_Integer) (by simp [entryFrame, mkF, argsToLocals, Value.category]) n0 ?_
 intro p e s m below meth c s₁ Bd hx B hml hZ hown hnm X0 e0 N0
 refine GoW.sg (mkF m 1 #[.val (.int q1), .unset] [(.int q1)]) (fun t k => XS.iloadN X0.here hx rfl (B d14_0) rfl k) ?_
 by_cases c6 : (0 : Int32) < q1
 ·refine GoW.sg (mkF m 19 #[.val (.int q1), .val (.int 31)] [(.int q1)]) (fun t k => XS.ifYes X0.here hx rfl (pc0 := 1) (pc' := 15) rfl (B d14_1) rfl ((if0 _ _).trans (tlt c6).2.2.1) (by decide) (by decide) (XS.bipush X0.here hx rfl (B d14_15) (XS.istoreN X0.here hx rfl (B d14_17) rfl (l' := #[.val (.int q1), .val (.int 31)]) rfl (XS.iloadN X0.here hx rfl (B d14_18) rfl k)))) ?_
  refine GoW.sg (mkF m 22 #[.val (.int q1), .val (.int 31)] [(.int 65536), (.int q1)]) (fun t k => X0.ldcWInt hx hown (mvT hZ (ww hw 67 rfl)) (g := (mkF m 19 #[.val (.int q1), .val (.int 31)] [(.int q1)])) rfl (B d14_19) t k) ?_
  by_cases c7 : q1 < (65536 : Int32)
  ·refine GoW.sg (mkF m 37 #[.val (.int q1), .val (.int 31)] [(.int 256), (.int q1)]) (fun t k => XS.icmpYes X0.here hx rfl (pc0 := 22) (pc' := 33) rfl (B d14_22) rfl (tlt c7).1 (by decide) (by decide) (XS.iloadN X0.here hx rfl (B d14_33) rfl (XS.sipush X0.here hx rfl (B d14_34) k))) ?_
   by_cases c8 : q1 < (256 : Int32)
   ·refine GoW.sg (mkF m 51 #[.val (.int q1), .val (.int 31)] [(.int 16), (.int q1)]) (fun t k => XS.icmpYes X0.here hx rfl (pc0 := 37) (pc' := 48) rfl (B d14_37) rfl (tlt c8).1 (by decide) (by decide) (XS.iloadN X0.here hx rfl (B d14_48) rfl (XS.bipush X0.here hx rfl (B d14_49) k))) ?_
    by_cases c9 : q1 < (16 : Int32)
    ·refine GoW.sg (mkF m 63 #[.val (.int q1), .val (.int 31)] [(.int 4), (.int q1)]) (fun t k => XS.icmpYes X0.here hx rfl (pc0 := 51) (pc' := 61) rfl (B d14_51) rfl (tlt c9).1 (by decide) (by decide) (XS.iloadN X0.here hx rfl (B d14_61) rfl (XS.iconst X0.here hx rfl (B d14_62) k))) ?_
     by_cases c10 : q1 < (4 : Int32)
     ·refine GoW.sg (mkF m 78 #[.val (.int q1), .val (.int 31)] [(.int ((31 : Int32) - (q1.toUInt32 >>> ((1 : Int32) &&& 31).toUInt32).toInt32))]) (fun t k => XS.icmpYes X0.here hx rfl (pc0 := 63) (pc' := 73) rfl (B d14_63) rfl (tlt c10).1 (by decide) (by decide) (XS.iloadN X0.here hx rfl (B d14_73) rfl (XS.iloadN X0.here hx rfl (B d14_74) rfl (XS.iconst X0.here hx rfl (B d14_75) (XS.iushr X0.here hx rfl (B d14_76) rfl (XS.isub X0.here hx rfl (B d14_77) rfl k)))))) ?_
      refine GoW.retI X0 hx Bd.returns (B d14_78) Bd.notSynchronized ?_ (by decide) (by decide)
      have hq : (F14 q1) = ((31 : Int32) - (q1.toUInt32 >>> ((1 : Int32) &&& 31).toUInt32).toInt32) := by unfold F14; rw [if_pos c6, if_pos c7, if_pos c8, if_pos c9, if_pos c10]; try rfl
      exact ⟨by rw [hq] <;> rfl, N0, e0⟩
     ·refine GoW.sg (mkF m 75 #[.val (.int (q1.toUInt32 >>> ((2 : Int32) &&& 31).toUInt32).toInt32), .val (.int 29)] [(.int (q1.toUInt32 >>> ((2 : Int32) &&& 31).toUInt32).toInt32), (.int 29)]) (fun t k => XS.icmpNo X0.here hx rfl (B d14_63) rfl (flt c10).1 (XS.iinc X0.here hx rfl (B d14_66) rfl (l' := #[.val (.int q1), .val (.int 29)]) rfl (XS.iloadN X0.here hx rfl (B d14_69) rfl (XS.iconst X0.here hx rfl (B d14_70) (XS.iushr X0.here hx rfl (B d14_71) rfl (XS.istoreN X0.here hx rfl (B d14_72) rfl (l' := #[.val (.int (q1.toUInt32 >>> ((2 : Int32) &&& 31).toUInt32).toInt32), .val (.int 29)]) rfl (XS.iloadN X0.here hx rfl (B d14_73) rfl (XS.iloadN X0.here hx rfl (B d14_74) rfl k)))))))) ?_
      refine GoW.sg (mkF m 78 #[.val (.int (q1.toUInt32 >>> ((2 : Int32) &&& 31).toUInt32).toInt32), .val (.int 29)] [(.int ((29 : Int32) - ((q1.toUInt32 >>> ((2 : Int32) &&& 31).toUInt32).toInt32.toUInt32 >>> ((1 : Int32) &&& 31).toUInt32).toInt32))]) (fun t k => XS.iconst X0.here hx rfl (B d14_75) (XS.iushr X0.here hx rfl (B d14_76) rfl (XS.isub X0.here hx rfl (B d14_77) rfl k))) ?_
      refine GoW.retI X0 hx Bd.returns (B d14_78) Bd.notSynchronized ?_ (by decide) (by decide)
      have hq : (F14 q1) = ((29 : Int32) - ((q1.toUInt32 >>> ((2 : Int32) &&& 31).toUInt32).toInt32.toUInt32 >>> ((1 : Int32) &&& 31).toUInt32).toInt32) := by unfold F14; rw [if_pos c6, if_pos c7, if_pos c8, if_pos c9, if_neg c10]; try rfl
      exact ⟨by rw [hq] <;> rfl, N0, e0⟩
    ·refine GoW.sg (mkF m 63 #[.val (.int (q1.toUInt32 >>> ((4 : Int32) &&& 31).toUInt32).toInt32), .val (.int 27)] [(.int 4), (.int (q1.toUInt32 >>> ((4 : Int32) &&& 31).toUInt32).toInt32)]) (fun t k => XS.icmpNo X0.here hx rfl (B d14_51) rfl (flt c9).1 (XS.iinc X0.here hx rfl (B d14_54) rfl (l' := #[.val (.int q1), .val (.int 27)]) rfl (XS.iloadN X0.here hx rfl (B d14_57) rfl (XS.iconst X0.here hx rfl (B d14_58) (XS.iushr X0.here hx rfl (B d14_59) rfl (XS.istoreN X0.here hx rfl (B d14_60) rfl (l' := #[.val (.int (q1.toUInt32 >>> ((4 : Int32) &&& 31).toUInt32).toInt32), .val (.int 27)]) rfl (XS.iloadN X0.here hx rfl (B d14_61) rfl (XS.iconst X0.here hx rfl (B d14_62) k)))))))) ?_
     by_cases c11 : (q1.toUInt32 >>> ((4 : Int32) &&& 31).toUInt32).toInt32 < (4 : Int32)
     ·refine GoW.sg (mkF m 78 #[.val (.int (q1.toUInt32 >>> ((4 : Int32) &&& 31).toUInt32).toInt32), .val (.int 27)] [(.int ((27 : Int32) - ((q1.toUInt32 >>> ((4 : Int32) &&& 31).toUInt32).toInt32.toUInt32 >>> ((1 : Int32) &&& 31).toUInt32).toInt32))]) (fun t k => XS.icmpYes X0.here hx rfl (pc0 := 63) (pc' := 73) rfl (B d14_63) rfl (tlt c11).1 (by decide) (by decide) (XS.iloadN X0.here hx rfl (B d14_73) rfl (XS.iloadN X0.here hx rfl (B d14_74) rfl (XS.iconst X0.here hx rfl (B d14_75) (XS.iushr X0.here hx rfl (B d14_76) rfl (XS.isub X0.here hx rfl (B d14_77) rfl k)))))) ?_
      refine GoW.retI X0 hx Bd.returns (B d14_78) Bd.notSynchronized ?_ (by decide) (by decide)
      have hq : (F14 q1) = ((27 : Int32) - ((q1.toUInt32 >>> ((4 : Int32) &&& 31).toUInt32).toInt32.toUInt32 >>> ((1 : Int32) &&& 31).toUInt32).toInt32) := by unfold F14; rw [if_pos c6, if_pos c7, if_pos c8, if_neg c9, if_pos c11]; try rfl
      exact ⟨by rw [hq] <;> rfl, N0, e0⟩
     ·refine GoW.sg (mkF m 75 #[.val (.int ((q1.toUInt32 >>> ((4 : Int32) &&& 31).toUInt32).toInt32.toUInt32 >>> ((2 : Int32) &&& 31).toUInt32).toInt32), .val (.int 25)] [(.int ((q1.toUInt32 >>> ((4 : Int32) &&& 31).toUInt32).toInt32.toUInt32 >>> ((2 : Int32) &&& 31).toUInt32).toInt32), (.int 25)]) (fun t k => XS.icmpNo X0.here hx rfl (B d14_63) rfl (flt c11).1 (XS.iinc X0.here hx rfl (B d14_66) rfl (l' := #[.val (.int (q1.toUInt32 >>> ((4 : Int32) &&& 31).toUInt32).toInt32), .val (.int 25)]) rfl (XS.iloadN X0.here hx rfl (B d14_69) rfl (XS.iconst X0.here hx rfl (B d14_70) (XS.iushr X0.here hx rfl (B d14_71) rfl (XS.istoreN X0.here hx rfl (B d14_72) rfl (l' := #[.val (.int ((q1.toUInt32 >>> ((4 : Int32) &&& 31).toUInt32).toInt32.toUInt32 >>> ((2 : Int32) &&& 31).toUInt32).toInt32), .val (.int 25)]) rfl (XS.iloadN X0.here hx rfl (B d14_73) rfl (XS.iloadN X0.here hx rfl (B d14_74) rfl k)))))))) ?_
      refine GoW.sg (mkF m 78 #[.val (.int ((q1.toUInt32 >>> ((4 : Int32) &&& 31).toUInt32).toInt32.toUInt32 >>> ((2 : Int32) &&& 31).toUInt32).toInt32), .val (.int 25)] [(.int ((25 : Int32) - (((q1.toUInt32 >>> ((4 : Int32) &&& 31).toUInt32).toInt32.toUInt32 >>> ((2 : Int32) &&& 31).toUInt32).toInt32.toUInt32 >>> ((1 : Int32) &&& 31).toUInt32).toInt32))]) (fun t k => XS.iconst X0.here hx rfl (B d14_75) (XS.iushr X0.here hx rfl (B d14_76) rfl (XS.isub X0.here hx rfl (B d14_77) rfl k))) ?_
      refine GoW.retI X0 hx Bd.returns (B d14_78) Bd.notSynchronized ?_ (by decide) (by decide)
      have hq : (F14 q1) = ((25 : Int32) - (((q1.toUInt32 >>> ((4 : Int32) &&& 31).toUInt32).toInt32.toUInt32 >>> ((2 : Int32) &&& 31).toUInt32).toInt32.toUInt32 >>> ((1 : Int32) &&& 31).toUInt32).toInt32) := by unfold F14; rw [if_pos c6, if_pos c7, if_pos c8, if_neg c9, if_neg c11]; try rfl
      exact ⟨by rw [hq] <;> rfl, N0, e0⟩
   ·refine GoW.sg (mkF m 51 #[.val (.int (q1.toUInt32 >>> ((8 : Int32) &&& 31).toUInt32).toInt32), .val (.int 23)] [(.int 16), (.int (q1.toUInt32 >>> ((8 : Int32) &&& 31).toUInt32).toInt32)]) (fun t k => XS.icmpNo X0.here hx rfl (B d14_37) rfl (flt c8).1 (XS.iinc X0.here hx rfl (B d14_40) rfl (l' := #[.val (.int q1), .val (.int 23)]) rfl (XS.iloadN X0.here hx rfl (B d14_43) rfl (XS.bipush X0.here hx rfl (B d14_44) (XS.iushr X0.here hx rfl (B d14_46) rfl (XS.istoreN X0.here hx rfl (B d14_47) rfl (l' := #[.val (.int (q1.toUInt32 >>> ((8 : Int32) &&& 31).toUInt32).toInt32), .val (.int 23)]) rfl (XS.iloadN X0.here hx rfl (B d14_48) rfl (XS.bipush X0.here hx rfl (B d14_49) k)))))))) ?_
    by_cases c12 : (q1.toUInt32 >>> ((8 : Int32) &&& 31).toUInt32).toInt32 < (16 : Int32)
    ·refine GoW.sg (mkF m 63 #[.val (.int (q1.toUInt32 >>> ((8 : Int32) &&& 31).toUInt32).toInt32), .val (.int 23)] [(.int 4), (.int (q1.toUInt32 >>> ((8 : Int32) &&& 31).toUInt32).toInt32)]) (fun t k => XS.icmpYes X0.here hx rfl (pc0 := 51) (pc' := 61) rfl (B d14_51) rfl (tlt c12).1 (by decide) (by decide) (XS.iloadN X0.here hx rfl (B d14_61) rfl (XS.iconst X0.here hx rfl (B d14_62) k))) ?_
     by_cases c13 : (q1.toUInt32 >>> ((8 : Int32) &&& 31).toUInt32).toInt32 < (4 : Int32)
     ·refine GoW.sg (mkF m 78 #[.val (.int (q1.toUInt32 >>> ((8 : Int32) &&& 31).toUInt32).toInt32), .val (.int 23)] [(.int ((23 : Int32) - ((q1.toUInt32 >>> ((8 : Int32) &&& 31).toUInt32).toInt32.toUInt32 >>> ((1 : Int32) &&& 31).toUInt32).toInt32))]) (fun t k => XS.icmpYes X0.here hx rfl (pc0 := 63) (pc' := 73) rfl (B d14_63) rfl (tlt c13).1 (by decide) (by decide) (XS.iloadN X0.here hx rfl (B d14_73) rfl (XS.iloadN X0.here hx rfl (B d14_74) rfl (XS.iconst X0.here hx rfl (B d14_75) (XS.iushr X0.here hx rfl (B d14_76) rfl (XS.isub X0.here hx rfl (B d14_77) rfl k)))))) ?_
      refine GoW.retI X0 hx Bd.returns (B d14_78) Bd.notSynchronized ?_ (by decide) (by decide)
      have hq : (F14 q1) = ((23 : Int32) - ((q1.toUInt32 >>> ((8 : Int32) &&& 31).toUInt32).toInt32.toUInt32 >>> ((1 : Int32) &&& 31).toUInt32).toInt32) := by unfold F14; rw [if_pos c6, if_pos c7, if_neg c8, if_pos c12, if_pos c13]; try rfl
      exact ⟨by rw [hq] <;> rfl, N0, e0⟩
     ·refine GoW.sg (mkF m 75 #[.val (.int ((q1.toUInt32 >>> ((8 : Int32) &&& 31).toUInt32).toInt32.toUInt32 >>> ((2 : Int32) &&& 31).toUInt32).toInt32), .val (.int 21)] [(.int ((q1.toUInt32 >>> ((8 : Int32) &&& 31).toUInt32).toInt32.toUInt32 >>> ((2 : Int32) &&& 31).toUInt32).toInt32), (.int 21)]) (fun t k => XS.icmpNo X0.here hx rfl (B d14_63) rfl (flt c13).1 (XS.iinc X0.here hx rfl (B d14_66) rfl (l' := #[.val (.int (q1.toUInt32 >>> ((8 : Int32) &&& 31).toUInt32).toInt32), .val (.int 21)]) rfl (XS.iloadN X0.here hx rfl (B d14_69) rfl (XS.iconst X0.here hx rfl (B d14_70) (XS.iushr X0.here hx rfl (B d14_71) rfl (XS.istoreN X0.here hx rfl (B d14_72) rfl (l' := #[.val (.int ((q1.toUInt32 >>> ((8 : Int32) &&& 31).toUInt32).toInt32.toUInt32 >>> ((2 : Int32) &&& 31).toUInt32).toInt32), .val (.int 21)]) rfl (XS.iloadN X0.here hx rfl (B d14_73) rfl (XS.iloadN X0.here hx rfl (B d14_74) rfl k)))))))) ?_
      refine GoW.sg (mkF m 78 #[.val (.int ((q1.toUInt32 >>> ((8 : Int32) &&& 31).toUInt32).toInt32.toUInt32 >>> ((2 : Int32) &&& 31).toUInt32).toInt32), .val (.int 21)] [(.int ((21 : Int32) - (((q1.toUInt32 >>> ((8 : Int32) &&& 31).toUInt32).toInt32.toUInt32 >>> ((2 : Int32) &&& 31).toUInt32).toInt32.toUInt32 >>> ((1 : Int32) &&& 31).toUInt32).toInt32))]) (fun t k => XS.iconst X0.here hx rfl (B d14_75) (XS.iushr X0.here hx rfl (B d14_76) rfl (XS.isub X0.here hx rfl (B d14_77) rfl k))) ?_
      refine GoW.retI X0 hx Bd.returns (B d14_78) Bd.notSynchronized ?_ (by decide) (by decide)
      have hq : (F14 q1) = ((21 : Int32) - (((q1.toUInt32 >>> ((8 : Int32) &&& 31).toUInt32).toInt32.toUInt32 >>> ((2 : Int32) &&& 31).toUInt32).toInt32.toUInt32 >>> ((1 : Int32) &&& 31).toUInt32).toInt32) := by unfold F14; rw [if_pos c6, if_pos c7, if_neg c8, if_pos c12, if_neg c13]; try rfl
      exact ⟨by rw [hq] <;> rfl, N0, e0⟩
    ·refine GoW.sg (mkF m 63 #[.val (.int ((q1.toUInt32 >>> ((8 : Int32) &&& 31).toUInt32).toInt32.toUInt32 >>> ((4 : Int32) &&& 31).toUInt32).toInt32), .val (.int 19)] [(.int 4), (.int ((q1.toUInt32 >>> ((8 : Int32) &&& 31).toUInt32).toInt32.toUInt32 >>> ((4 : Int32) &&& 31).toUInt32).toInt32)]) (fun t k => XS.icmpNo X0.here hx rfl (B d14_51) rfl (flt c12).1 (XS.iinc X0.here hx rfl (B d14_54) rfl (l' := #[.val (.int (q1.toUInt32 >>> ((8 : Int32) &&& 31).toUInt32).toInt32), .val (.int 19)]) rfl (XS.iloadN X0.here hx rfl (B d14_57) rfl (XS.iconst X0.here hx rfl (B d14_58) (XS.iushr X0.here hx rfl (B d14_59) rfl (XS.istoreN X0.here hx rfl (B d14_60) rfl (l' := #[.val (.int ((q1.toUInt32 >>> ((8 : Int32) &&& 31).toUInt32).toInt32.toUInt32 >>> ((4 : Int32) &&& 31).toUInt32).toInt32), .val (.int 19)]) rfl (XS.iloadN X0.here hx rfl (B d14_61) rfl (XS.iconst X0.here hx rfl (B d14_62) k)))))))) ?_
     by_cases c14 : ((q1.toUInt32 >>> ((8 : Int32) &&& 31).toUInt32).toInt32.toUInt32 >>> ((4 : Int32) &&& 31).toUInt32).toInt32 < (4 : Int32)
     ·refine GoW.sg (mkF m 78 #[.val (.int ((q1.toUInt32 >>> ((8 : Int32) &&& 31).toUInt32).toInt32.toUInt32 >>> ((4 : Int32) &&& 31).toUInt32).toInt32), .val (.int 19)] [(.int ((19 : Int32) - (((q1.toUInt32 >>> ((8 : Int32) &&& 31).toUInt32).toInt32.toUInt32 >>> ((4 : Int32) &&& 31).toUInt32).toInt32.toUInt32 >>> ((1 : Int32) &&& 31).toUInt32).toInt32))]) (fun t k => XS.icmpYes X0.here hx rfl (pc0 := 63) (pc' := 73) rfl (B d14_63) rfl (tlt c14).1 (by decide) (by decide) (XS.iloadN X0.here hx rfl (B d14_73) rfl (XS.iloadN X0.here hx rfl (B d14_74) rfl (XS.iconst X0.here hx rfl (B d14_75) (XS.iushr X0.here hx rfl (B d14_76) rfl (XS.isub X0.here hx rfl (B d14_77) rfl k)))))) ?_
      refine GoW.retI X0 hx Bd.returns (B d14_78) Bd.notSynchronized ?_ (by decide) (by decide)
      have hq : (F14 q1) = ((19 : Int32) - (((q1.toUInt32 >>> ((8 : Int32) &&& 31).toUInt32).toInt32.toUInt32 >>> ((4 : Int32) &&& 31).toUInt32).toInt32.toUInt32 >>> ((1 : Int32) &&& 31).toUInt32).toInt32) := by unfold F14; rw [if_pos c6, if_pos c7, if_neg c8, if_neg c12, if_pos c14]; try rfl
      exact ⟨by rw [hq] <;> rfl, N0, e0⟩
     ·refine GoW.sg (mkF m 75 #[.val (.int (((q1.toUInt32 >>> ((8 : Int32) &&& 31).toUInt32).toInt32.toUInt32 >>> ((4 : Int32) &&& 31).toUInt32).toInt32.toUInt32 >>> ((2 : Int32) &&& 31).toUInt32).toInt32), .val (.int 17)] [(.int (((q1.toUInt32 >>> ((8 : Int32) &&& 31).toUInt32).toInt32.toUInt32 >>> ((4 : Int32) &&& 31).toUInt32).toInt32.toUInt32 >>> ((2 : Int32) &&& 31).toUInt32).toInt32), (.int 17)]) (fun t k => XS.icmpNo X0.here hx rfl (B d14_63) rfl (flt c14).1 (XS.iinc X0.here hx rfl (B d14_66) rfl (l' := #[.val (.int ((q1.toUInt32 >>> ((8 : Int32) &&& 31).toUInt32).toInt32.toUInt32 >>> ((4 : Int32) &&& 31).toUInt32).toInt32), .val (.int 17)]) rfl (XS.iloadN X0.here hx rfl (B d14_69) rfl (XS.iconst X0.here hx rfl (B d14_70) (XS.iushr X0.here hx rfl (B d14_71) rfl (XS.istoreN X0.here hx rfl (B d14_72) rfl (l' := #[.val (.int (((q1.toUInt32 >>> ((8 : Int32) &&& 31).toUInt32).toInt32.toUInt32 >>> ((4 : Int32) &&& 31).toUInt32).toInt32.toUInt32 >>> ((2 : Int32) &&& 31).toUInt32).toInt32), .val (.int 17)]) rfl (XS.iloadN X0.here hx rfl (B d14_73) rfl (XS.iloadN X0.here hx rfl (B d14_74) rfl k)))))))) ?_
      refine GoW.sg (mkF m 78 #[.val (.int (((q1.toUInt32 >>> ((8 : Int32) &&& 31).toUInt32).toInt32.toUInt32 >>> ((4 : Int32) &&& 31).toUInt32).toInt32.toUInt32 >>> ((2 : Int32) &&& 31).toUInt32).toInt32), .val (.int 17)] [(.int ((17 : Int32) - ((((q1.toUInt32 >>> ((8 : Int32) &&& 31).toUInt32).toInt32.toUInt32 >>> ((4 : Int32) &&& 31).toUInt32).toInt32.toUInt32 >>> ((2 : Int32) &&& 31).toUInt32).toInt32.toUInt32 >>> ((1 : Int32) &&& 31).toUInt32).toInt32))]) (fun t k => XS.iconst X0.here hx rfl (B d14_75) (XS.iushr X0.here hx rfl (B d14_76) rfl (XS.isub X0.here hx rfl (B d14_77) rfl k))) ?_
      refine GoW.retI X0 hx Bd.returns (B d14_78) Bd.notSynchronized ?_ (by decide) (by decide)
      have hq : (F14 q1) = ((17 : Int32) - ((((q1.toUInt32 >>> ((8 : Int32) &&& 31).toUInt32).toInt32.toUInt32 >>> ((4 : Int32) &&& 31).toUInt32).toInt32.toUInt32 >>> ((2 : Int32) &&& 31).toUInt32).toInt32.toUInt32 >>> ((1 : Int32) &&& 31).toUInt32).toInt32) := by unfold F14; rw [if_pos c6, if_pos c7, if_neg c8, if_neg c12, if_neg c14]; try rfl
      exact ⟨by rw [hq] <;> rfl, N0, e0⟩
  ·refine GoW.sg (mkF m 37 #[.val (.int (q1.toUInt32 >>> ((16 : Int32) &&& 31).toUInt32).toInt32), .val (.int 15)] [(.int 256), (.int (q1.toUInt32 >>> ((16 : Int32) &&& 31).toUInt32).toInt32)]) (fun t k => XS.icmpNo X0.here hx rfl (B d14_22) rfl (flt c7).1 (XS.iinc X0.here hx rfl (B d14_25) rfl (l' := #[.val (.int q1), .val (.int 15)]) rfl (XS.iloadN X0.here hx rfl (B d14_28) rfl (XS.bipush X0.here hx rfl (B d14_29) (XS.iushr X0.here hx rfl (B d14_31) rfl (XS.istoreN X0.here hx rfl (B d14_32) rfl (l' := #[.val (.int (q1.toUInt32 >>> ((16 : Int32) &&& 31).toUInt32).toInt32), .val (.int 15)]) rfl (XS.iloadN X0.here hx rfl (B d14_33) rfl (XS.sipush X0.here hx rfl (B d14_34) k)))))))) ?_
   by_cases c15 : (q1.toUInt32 >>> ((16 : Int32) &&& 31).toUInt32).toInt32 < (256 : Int32)
   ·refine GoW.sg (mkF m 51 #[.val (.int (q1.toUInt32 >>> ((16 : Int32) &&& 31).toUInt32).toInt32), .val (.int 15)] [(.int 16), (.int (q1.toUInt32 >>> ((16 : Int32) &&& 31).toUInt32).toInt32)]) (fun t k => XS.icmpYes X0.here hx rfl (pc0 := 37) (pc' := 48) rfl (B d14_37) rfl (tlt c15).1 (by decide) (by decide) (XS.iloadN X0.here hx rfl (B d14_48) rfl (XS.bipush X0.here hx rfl (B d14_49) k))) ?_
    by_cases c16 : (q1.toUInt32 >>> ((16 : Int32) &&& 31).toUInt32).toInt32 < (16 : Int32)
    ·refine GoW.sg (mkF m 63 #[.val (.int (q1.toUInt32 >>> ((16 : Int32) &&& 31).toUInt32).toInt32), .val (.int 15)] [(.int 4), (.int (q1.toUInt32 >>> ((16 : Int32) &&& 31).toUInt32).toInt32)]) (fun t k => XS.icmpYes X0.here hx rfl (pc0 := 51) (pc' := 61) rfl (B d14_51) rfl (tlt c16).1 (by decide) (by decide) (XS.iloadN X0.here hx rfl (B d14_61) rfl (XS.iconst X0.here hx rfl (B d14_62) k))) ?_
     by_cases c17 : (q1.toUInt32 >>> ((16 : Int32) &&& 31).toUInt32).toInt32 < (4 : Int32)
     ·refine GoW.sg (mkF m 78 #[.val (.int (q1.toUInt32 >>> ((16 : Int32) &&& 31).toUInt32).toInt32), .val (.int 15)] [(.int ((15 : Int32) - ((q1.toUInt32 >>> ((16 : Int32) &&& 31).toUInt32).toInt32.toUInt32 >>> ((1 : Int32) &&& 31).toUInt32).toInt32))]) (fun t k => XS.icmpYes X0.here hx rfl (pc0 := 63) (pc' := 73) rfl (B d14_63) rfl (tlt c17).1 (by decide) (by decide) (XS.iloadN X0.here hx rfl (B d14_73) rfl (XS.iloadN X0.here hx rfl (B d14_74) rfl (XS.iconst X0.here hx rfl (B d14_75) (XS.iushr X0.here hx rfl (B d14_76) rfl (XS.isub X0.here hx rfl (B d14_77) rfl k)))))) ?_
      refine GoW.retI X0 hx Bd.returns (B d14_78) Bd.notSynchronized ?_ (by decide) (by decide)
      have hq : (F14 q1) = ((15 : Int32) - ((q1.toUInt32 >>> ((16 : Int32) &&& 31).toUInt32).toInt32.toUInt32 >>> ((1 : Int32) &&& 31).toUInt32).toInt32) := by unfold F14; rw [if_pos c6, if_neg c7, if_pos c15, if_pos c16, if_pos c17]; try rfl
      exact ⟨by rw [hq] <;> rfl, N0, e0⟩
     ·refine GoW.sg (mkF m 75 #[.val (.int ((q1.toUInt32 >>> ((16 : Int32) &&& 31).toUInt32).toInt32.toUInt32 >>> ((2 : Int32) &&& 31).toUInt32).toInt32), .val (.int 13)] [(.int ((q1.toUInt32 >>> ((16 : Int32) &&& 31).toUInt32).toInt32.toUInt32 >>> ((2 : Int32) &&& 31).toUInt32).toInt32), (.int 13)]) (fun t k => XS.icmpNo X0.here hx rfl (B d14_63) rfl (flt c17).1 (XS.iinc X0.here hx rfl (B d14_66) rfl (l' := #[.val (.int (q1.toUInt32 >>> ((16 : Int32) &&& 31).toUInt32).toInt32), .val (.int 13)]) rfl (XS.iloadN X0.here hx rfl (B d14_69) rfl (XS.iconst X0.here hx rfl (B d14_70) (XS.iushr X0.here hx rfl (B d14_71) rfl (XS.istoreN X0.here hx rfl (B d14_72) rfl (l' := #[.val (.int ((q1.toUInt32 >>> ((16 : Int32) &&& 31).toUInt32).toInt32.toUInt32 >>> ((2 : Int32) &&& 31).toUInt32).toInt32), .val (.int 13)]) rfl (XS.iloadN X0.here hx rfl (B d14_73) rfl (XS.iloadN X0.here hx rfl (B d14_74) rfl k)))))))) ?_
      refine GoW.sg (mkF m 78 #[.val (.int ((q1.toUInt32 >>> ((16 : Int32) &&& 31).toUInt32).toInt32.toUInt32 >>> ((2 : Int32) &&& 31).toUInt32).toInt32), .val (.int 13)] [(.int ((13 : Int32) - (((q1.toUInt32 >>> ((16 : Int32) &&& 31).toUInt32).toInt32.toUInt32 >>> ((2 : Int32) &&& 31).toUInt32).toInt32.toUInt32 >>> ((1 : Int32) &&& 31).toUInt32).toInt32))]) (fun t k => XS.iconst X0.here hx rfl (B d14_75) (XS.iushr X0.here hx rfl (B d14_76) rfl (XS.isub X0.here hx rfl (B d14_77) rfl k))) ?_
      refine GoW.retI X0 hx Bd.returns (B d14_78) Bd.notSynchronized ?_ (by decide) (by decide)
      have hq : (F14 q1) = ((13 : Int32) - (((q1.toUInt32 >>> ((16 : Int32) &&& 31).toUInt32).toInt32.toUInt32 >>> ((2 : Int32) &&& 31).toUInt32).toInt32.toUInt32 >>> ((1 : Int32) &&& 31).toUInt32).toInt32) := by unfold F14; rw [if_pos c6, if_neg c7, if_pos c15, if_pos c16, if_neg c17]; try rfl
      exact ⟨by rw [hq] <;> rfl, N0, e0⟩
    ·refine GoW.sg (mkF m 63 #[.val (.int ((q1.toUInt32 >>> ((16 : Int32) &&& 31).toUInt32).toInt32.toUInt32 >>> ((4 : Int32) &&& 31).toUInt32).toInt32), .val (.int 11)] [(.int 4), (.int ((q1.toUInt32 >>> ((16 : Int32) &&& 31).toUInt32).toInt32.toUInt32 >>> ((4 : Int32) &&& 31).toUInt32).toInt32)]) (fun t k => XS.icmpNo X0.here hx rfl (B d14_51) rfl (flt c16).1 (XS.iinc X0.here hx rfl (B d14_54) rfl (l' := #[.val (.int (q1.toUInt32 >>> ((16 : Int32) &&& 31).toUInt32).toInt32), .val (.int 11)]) rfl (XS.iloadN X0.here hx rfl (B d14_57) rfl (XS.iconst X0.here hx rfl (B d14_58) (XS.iushr X0.here hx rfl (B d14_59) rfl (XS.istoreN X0.here hx rfl (B d14_60) rfl (l' := #[.val (.int ((q1.toUInt32 >>> ((16 : Int32) &&& 31).toUInt32).toInt32.toUInt32 >>> ((4 : Int32) &&& 31).toUInt32).toInt32), .val (.int 11)]) rfl (XS.iloadN X0.here hx rfl (B d14_61) rfl (XS.iconst X0.here hx rfl (B d14_62) k)))))))) ?_
     by_cases c18 : ((q1.toUInt32 >>> ((16 : Int32) &&& 31).toUInt32).toInt32.toUInt32 >>> ((4 : Int32) &&& 31).toUInt32).toInt32 < (4 : Int32)
     ·refine GoW.sg (mkF m 78 #[.val (.int ((q1.toUInt32 >>> ((16 : Int32) &&& 31).toUInt32).toInt32.toUInt32 >>> ((4 : Int32) &&& 31).toUInt32).toInt32), .val (.int 11)] [(.int ((11 : Int32) - (((q1.toUInt32 >>> ((16 : Int32) &&& 31).toUInt32).toInt32.toUInt32 >>> ((4 : Int32) &&& 31).toUInt32).toInt32.toUInt32 >>> ((1 : Int32) &&& 31).toUInt32).toInt32))]) (fun t k => XS.icmpYes X0.here hx rfl (pc0 := 63) (pc' := 73) rfl (B d14_63) rfl (tlt c18).1 (by decide) (by decide) (XS.iloadN X0.here hx rfl (B d14_73) rfl (XS.iloadN X0.here hx rfl (B d14_74) rfl (XS.iconst X0.here hx rfl (B d14_75) (XS.iushr X0.here hx rfl (B d14_76) rfl (XS.isub X0.here hx rfl (B d14_77) rfl k)))))) ?_
      refine GoW.retI X0 hx Bd.returns (B d14_78) Bd.notSynchronized ?_ (by decide) (by decide)
      have hq : (F14 q1) = ((11 : Int32) - (((q1.toUInt32 >>> ((16 : Int32) &&& 31).toUInt32).toInt32.toUInt32 >>> ((4 : Int32) &&& 31).toUInt32).toInt32.toUInt32 >>> ((1 : Int32) &&& 31).toUInt32).toInt32) := by unfold F14; rw [if_pos c6, if_neg c7, if_pos c15, if_neg c16, if_pos c18]; try rfl
      exact ⟨by rw [hq] <;> rfl, N0, e0⟩
     ·refine GoW.sg (mkF m 75 #[.val (.int (((q1.toUInt32 >>> ((16 : Int32) &&& 31).toUInt32).toInt32.toUInt32 >>> ((4 : Int32) &&& 31).toUInt32).toInt32.toUInt32 >>> ((2 : Int32) &&& 31).toUInt32).toInt32), .val (.int 9)] [(.int (((q1.toUInt32 >>> ((16 : Int32) &&& 31).toUInt32).toInt32.toUInt32 >>> ((4 : Int32) &&& 31).toUInt32).toInt32.toUInt32 >>> ((2 : Int32) &&& 31).toUInt32).toInt32), (.int 9)]) (fun t k => XS.icmpNo X0.here hx rfl (B d14_63) rfl (flt c18).1 (XS.iinc X0.here hx rfl (B d14_66) rfl (l' := #[.val (.int ((q1.toUInt32 >>> ((16 : Int32) &&& 31).toUInt32).toInt32.toUInt32 >>> ((4 : Int32) &&& 31).toUInt32).toInt32), .val (.int 9)]) rfl (XS.iloadN X0.here hx rfl (B d14_69) rfl (XS.iconst X0.here hx rfl (B d14_70) (XS.iushr X0.here hx rfl (B d14_71) rfl (XS.istoreN X0.here hx rfl (B d14_72) rfl (l' := #[.val (.int (((q1.toUInt32 >>> ((16 : Int32) &&& 31).toUInt32).toInt32.toUInt32 >>> ((4 : Int32) &&& 31).toUInt32).toInt32.toUInt32 >>> ((2 : Int32) &&& 31).toUInt32).toInt32), .val (.int 9)]) rfl (XS.iloadN X0.here hx rfl (B d14_73) rfl (XS.iloadN X0.here hx rfl (B d14_74) rfl k)))))))) ?_
      refine GoW.sg (mkF m 78 #[.val (.int (((q1.toUInt32 >>> ((16 : Int32) &&& 31).toUInt32).toInt32.toUInt32 >>> ((4 : Int32) &&& 31).toUInt32).toInt32.toUInt32 >>> ((2 : Int32) &&& 31).toUInt32).toInt32), .val (.int 9)] [(.int ((9 : Int32) - ((((q1.toUInt32 >>> ((16 : Int32) &&& 31).toUInt32).toInt32.toUInt32 >>> ((4 : Int32) &&& 31).toUInt32).toInt32.toUInt32 >>> ((2 : Int32) &&& 31).toUInt32).toInt32.toUInt32 >>> ((1 : Int32) &&& 31).toUInt32).toInt32))]) (fun t k => XS.iconst X0.here hx rfl (B d14_75) (XS.iushr X0.here hx rfl (B d14_76) rfl (XS.isub X0.here hx rfl (B d14_77) rfl k))) ?_
      refine GoW.retI X0 hx Bd.returns (B d14_78) Bd.notSynchronized ?_ (by decide) (by decide)
      have hq : (F14 q1) = ((9 : Int32) - ((((q1.toUInt32 >>> ((16 : Int32) &&& 31).toUInt32).toInt32.toUInt32 >>> ((4 : Int32) &&& 31).toUInt32).toInt32.toUInt32 >>> ((2 : Int32) &&& 31).toUInt32).toInt32.toUInt32 >>> ((1 : Int32) &&& 31).toUInt32).toInt32) := by unfold F14; rw [if_pos c6, if_neg c7, if_pos c15, if_neg c16, if_neg c18]; try rfl
      exact ⟨by rw [hq] <;> rfl, N0, e0⟩
   ·refine GoW.sg (mkF m 51 #[.val (.int ((q1.toUInt32 >>> ((16 : Int32) &&& 31).toUInt32).toInt32.toUInt32 >>> ((8 : Int32) &&& 31).toUInt32).toInt32), .val (.int 7)] [(.int 16), (.int ((q1.toUInt32 >>> ((16 : Int32) &&& 31).toUInt32).toInt32.toUInt32 >>> ((8 : Int32) &&& 31).toUInt32).toInt32)]) (fun t k => XS.icmpNo X0.here hx rfl (B d14_37) rfl (flt c15).1 (XS.iinc X0.here hx rfl (B d14_40) rfl (l' := #[.val (.int (q1.toUInt32 >>> ((16 : Int32) &&& 31).toUInt32).toInt32), .val (.int 7)]) rfl (XS.iloadN X0.here hx rfl (B d14_43) rfl (XS.bipush X0.here hx rfl (B d14_44) (XS.iushr X0.here hx rfl (B d14_46) rfl (XS.istoreN X0.here hx rfl (B d14_47) rfl (l' := #[.val (.int ((q1.toUInt32 >>> ((16 : Int32) &&& 31).toUInt32).toInt32.toUInt32 >>> ((8 : Int32) &&& 31).toUInt32).toInt32), .val (.int 7)]) rfl (XS.iloadN X0.here hx rfl (B d14_48) rfl (XS.bipush X0.here hx rfl (B d14_49) k)))))))) ?_
    by_cases c19 : ((q1.toUInt32 >>> ((16 : Int32) &&& 31).toUInt32).toInt32.toUInt32 >>> ((8 : Int32) &&& 31).toUInt32).toInt32 < (16 : Int32)
    ·refine GoW.sg (mkF m 63 #[.val (.int ((q1.toUInt32 >>> ((16 : Int32) &&& 31).toUInt32).toInt32.toUInt32 >>> ((8 : Int32) &&& 31).toUInt32).toInt32), .val (.int 7)] [(.int 4), (.int ((q1.toUInt32 >>> ((16 : Int32) &&& 31).toUInt32).toInt32.toUInt32 >>> ((8 : Int32) &&& 31).toUInt32).toInt32)]) (fun t k => XS.icmpYes X0.here hx rfl (pc0 := 51) (pc' := 61) rfl (B d14_51) rfl (tlt c19).1 (by decide) (by decide) (XS.iloadN X0.here hx rfl (B d14_61) rfl (XS.iconst X0.here hx rfl (B d14_62) k))) ?_
     by_cases c20 : ((q1.toUInt32 >>> ((16 : Int32) &&& 31).toUInt32).toInt32.toUInt32 >>> ((8 : Int32) &&& 31).toUInt32).toInt32 < (4 : Int32)
     ·refine GoW.sg (mkF m 78 #[.val (.int ((q1.toUInt32 >>> ((16 : Int32) &&& 31).toUInt32).toInt32.toUInt32 >>> ((8 : Int32) &&& 31).toUInt32).toInt32), .val (.int 7)] [(.int ((7 : Int32) - (((q1.toUInt32 >>> ((16 : Int32) &&& 31).toUInt32).toInt32.toUInt32 >>> ((8 : Int32) &&& 31).toUInt32).toInt32.toUInt32 >>> ((1 : Int32) &&& 31).toUInt32).toInt32))]) (fun t k => XS.icmpYes X0.here hx rfl (pc0 := 63) (pc' := 73) rfl (B d14_63) rfl (tlt c20).1 (by decide) (by decide) (XS.iloadN X0.here hx rfl (B d14_73) rfl (XS.iloadN X0.here hx rfl (B d14_74) rfl (XS.iconst X0.here hx rfl (B d14_75) (XS.iushr X0.here hx rfl (B d14_76) rfl (XS.isub X0.here hx rfl (B d14_77) rfl k)))))) ?_
      refine GoW.retI X0 hx Bd.returns (B d14_78) Bd.notSynchronized ?_ (by decide) (by decide)
      have hq : (F14 q1) = ((7 : Int32) - (((q1.toUInt32 >>> ((16 : Int32) &&& 31).toUInt32).toInt32.toUInt32 >>> ((8 : Int32) &&& 31).toUInt32).toInt32.toUInt32 >>> ((1 : Int32) &&& 31).toUInt32).toInt32) := by unfold F14; rw [if_pos c6, if_neg c7, if_neg c15, if_pos c19, if_pos c20]; try rfl
      exact ⟨by rw [hq] <;> rfl, N0, e0⟩
     ·refine GoW.sg (mkF m 75 #[.val (.int (((q1.toUInt32 >>> ((16 : Int32) &&& 31).toUInt32).toInt32.toUInt32 >>> ((8 : Int32) &&& 31).toUInt32).toInt32.toUInt32 >>> ((2 : Int32) &&& 31).toUInt32).toInt32), .val (.int 5)] [(.int (((q1.toUInt32 >>> ((16 : Int32) &&& 31).toUInt32).toInt32.toUInt32 >>> ((8 : Int32) &&& 31).toUInt32).toInt32.toUInt32 >>> ((2 : Int32) &&& 31).toUInt32).toInt32), (.int 5)]) (fun t k => XS.icmpNo X0.here hx rfl (B d14_63) rfl (flt c20).1 (XS.iinc X0.here hx rfl (B d14_66) rfl (l' := #[.val (.int ((q1.toUInt32 >>> ((16 : Int32) &&& 31).toUInt32).toInt32.toUInt32 >>> ((8 : Int32) &&& 31).toUInt32).toInt32), .val (.int 5)]) rfl (XS.iloadN X0.here hx rfl (B d14_69) rfl (XS.iconst X0.here hx rfl (B d14_70) (XS.iushr X0.here hx rfl (B d14_71) rfl (XS.istoreN X0.here hx rfl (B d14_72) rfl (l' := #[.val (.int (((q1.toUInt32 >>> ((16 : Int32) &&& 31).toUInt32).toInt32.toUInt32 >>> ((8 : Int32) &&& 31).toUInt32).toInt32.toUInt32 >>> ((2 : Int32) &&& 31).toUInt32).toInt32), .val (.int 5)]) rfl (XS.iloadN X0.here hx rfl (B d14_73) rfl (XS.iloadN X0.here hx rfl (B d14_74) rfl k)))))))) ?_
      refine GoW.sg (mkF m 78 #[.val (.int (((q1.toUInt32 >>> ((16 : Int32) &&& 31).toUInt32).toInt32.toUInt32 >>> ((8 : Int32) &&& 31).toUInt32).toInt32.toUInt32 >>> ((2 : Int32) &&& 31).toUInt32).toInt32), .val (.int 5)] [(.int ((5 : Int32) - ((((q1.toUInt32 >>> ((16 : Int32) &&& 31).toUInt32).toInt32.toUInt32 >>> ((8 : Int32) &&& 31).toUInt32).toInt32.toUInt32 >>> ((2 : Int32) &&& 31).toUInt32).toInt32.toUInt32 >>> ((1 : Int32) &&& 31).toUInt32).toInt32))]) (fun t k => XS.iconst X0.here hx rfl (B d14_75) (XS.iushr X0.here hx rfl (B d14_76) rfl (XS.isub X0.here hx rfl (B d14_77) rfl k))) ?_
      refine GoW.retI X0 hx Bd.returns (B d14_78) Bd.notSynchronized ?_ (by decide) (by decide)
      have hq : (F14 q1) = ((5 : Int32) - ((((q1.toUInt32 >>> ((16 : Int32) &&& 31).toUInt32).toInt32.toUInt32 >>> ((8 : Int32) &&& 31).toUInt32).toInt32.toUInt32 >>> ((2 : Int32) &&& 31).toUInt32).toInt32.toUInt32 >>> ((1 : Int32) &&& 31).toUInt32).toInt32) := by unfold F14; rw [if_pos c6, if_neg c7, if_neg c15, if_pos c19, if_neg c20]; try rfl
      exact ⟨by rw [hq] <;> rfl, N0, e0⟩
    ·refine GoW.sg (mkF m 63 #[.val (.int (((q1.toUInt32 >>> ((16 : Int32) &&& 31).toUInt32).toInt32.toUInt32 >>> ((8 : Int32) &&& 31).toUInt32).toInt32.toUInt32 >>> ((4 : Int32) &&& 31).toUInt32).toInt32), .val (.int 3)] [(.int 4), (.int (((q1.toUInt32 >>> ((16 : Int32) &&& 31).toUInt32).toInt32.toUInt32 >>> ((8 : Int32) &&& 31).toUInt32).toInt32.toUInt32 >>> ((4 : Int32) &&& 31).toUInt32).toInt32)]) (fun t k => XS.icmpNo X0.here hx rfl (B d14_51) rfl (flt c19).1 (XS.iinc X0.here hx rfl (B d14_54) rfl (l' := #[.val (.int ((q1.toUInt32 >>> ((16 : Int32) &&& 31).toUInt32).toInt32.toUInt32 >>> ((8 : Int32) &&& 31).toUInt32).toInt32), .val (.int 3)]) rfl (XS.iloadN X0.here hx rfl (B d14_57) rfl (XS.iconst X0.here hx rfl (B d14_58) (XS.iushr X0.here hx rfl (B d14_59) rfl (XS.istoreN X0.here hx rfl (B d14_60) rfl (l' := #[.val (.int (((q1.toUInt32 >>> ((16 : Int32) &&& 31).toUInt32).toInt32.toUInt32 >>> ((8 : Int32) &&& 31).toUInt32).toInt32.toUInt32 >>> ((4 : Int32) &&& 31).toUInt32).toInt32), .val (.int 3)]) rfl (XS.iloadN X0.here hx rfl (B d14_61) rfl (XS.iconst X0.here hx rfl (B d14_62) k)))))))) ?_
     by_cases c21 : (((q1.toUInt32 >>> ((16 : Int32) &&& 31).toUInt32).toInt32.toUInt32 >>> ((8 : Int32) &&& 31).toUInt32).toInt32.toUInt32 >>> ((4 : Int32) &&& 31).toUInt32).toInt32 < (4 : Int32)
     ·refine GoW.sg (mkF m 78 #[.val (.int (((q1.toUInt32 >>> ((16 : Int32) &&& 31).toUInt32).toInt32.toUInt32 >>> ((8 : Int32) &&& 31).toUInt32).toInt32.toUInt32 >>> ((4 : Int32) &&& 31).toUInt32).toInt32), .val (.int 3)] [(.int ((3 : Int32) - ((((q1.toUInt32 >>> ((16 : Int32) &&& 31).toUInt32).toInt32.toUInt32 >>> ((8 : Int32) &&& 31).toUInt32).toInt32.toUInt32 >>> ((4 : Int32) &&& 31).toUInt32).toInt32.toUInt32 >>> ((1 : Int32) &&& 31).toUInt32).toInt32))]) (fun t k => XS.icmpYes X0.here hx rfl (pc0 := 63) (pc' := 73) rfl (B d14_63) rfl (tlt c21).1 (by decide) (by decide) (XS.iloadN X0.here hx rfl (B d14_73) rfl (XS.iloadN X0.here hx rfl (B d14_74) rfl (XS.iconst X0.here hx rfl (B d14_75) (XS.iushr X0.here hx rfl (B d14_76) rfl (XS.isub X0.here hx rfl (B d14_77) rfl k)))))) ?_
      refine GoW.retI X0 hx Bd.returns (B d14_78) Bd.notSynchronized ?_ (by decide) (by decide)
      have hq : (F14 q1) = ((3 : Int32) - ((((q1.toUInt32 >>> ((16 : Int32) &&& 31).toUInt32).toInt32.toUInt32 >>> ((8 : Int32) &&& 31).toUInt32).toInt32.toUInt32 >>> ((4 : Int32) &&& 31).toUInt32).toInt32.toUInt32 >>> ((1 : Int32) &&& 31).toUInt32).toInt32) := by unfold F14; rw [if_pos c6, if_neg c7, if_neg c15, if_neg c19, if_pos c21]; try rfl
      exact ⟨by rw [hq] <;> rfl, N0, e0⟩
     ·refine GoW.sg (mkF m 75 #[.val (.int ((((q1.toUInt32 >>> ((16 : Int32) &&& 31).toUInt32).toInt32.toUInt32 >>> ((8 : Int32) &&& 31).toUInt32).toInt32.toUInt32 >>> ((4 : Int32) &&& 31).toUInt32).toInt32.toUInt32 >>> ((2 : Int32) &&& 31).toUInt32).toInt32), .val (.int 1)] [(.int ((((q1.toUInt32 >>> ((16 : Int32) &&& 31).toUInt32).toInt32.toUInt32 >>> ((8 : Int32) &&& 31).toUInt32).toInt32.toUInt32 >>> ((4 : Int32) &&& 31).toUInt32).toInt32.toUInt32 >>> ((2 : Int32) &&& 31).toUInt32).toInt32), (.int 1)]) (fun t k => XS.icmpNo X0.here hx rfl (B d14_63) rfl (flt c21).1 (XS.iinc X0.here hx rfl (B d14_66) rfl (l' := #[.val (.int (((q1.toUInt32 >>> ((16 : Int32) &&& 31).toUInt32).toInt32.toUInt32 >>> ((8 : Int32) &&& 31).toUInt32).toInt32.toUInt32 >>> ((4 : Int32) &&& 31).toUInt32).toInt32), .val (.int 1)]) rfl (XS.iloadN X0.here hx rfl (B d14_69) rfl (XS.iconst X0.here hx rfl (B d14_70) (XS.iushr X0.here hx rfl (B d14_71) rfl (XS.istoreN X0.here hx rfl (B d14_72) rfl (l' := #[.val (.int ((((q1.toUInt32 >>> ((16 : Int32) &&& 31).toUInt32).toInt32.toUInt32 >>> ((8 : Int32) &&& 31).toUInt32).toInt32.toUInt32 >>> ((4 : Int32) &&& 31).toUInt32).toInt32.toUInt32 >>> ((2 : Int32) &&& 31).toUInt32).toInt32), .val (.int 1)]) rfl (XS.iloadN X0.here hx rfl (B d14_73) rfl (XS.iloadN X0.here hx rfl (B d14_74) rfl k)))))))) ?_
      refine GoW.sg (mkF m 78 #[.val (.int ((((q1.toUInt32 >>> ((16 : Int32) &&& 31).toUInt32).toInt32.toUInt32 >>> ((8 : Int32) &&& 31).toUInt32).toInt32.toUInt32 >>> ((4 : Int32) &&& 31).toUInt32).toInt32.toUInt32 >>> ((2 : Int32) &&& 31).toUInt32).toInt32), .val (.int 1)] [(.int ((1 : Int32) - (((((q1.toUInt32 >>> ((16 : Int32) &&& 31).toUInt32).toInt32.toUInt32 >>> ((8 : Int32) &&& 31).toUInt32).toInt32.toUInt32 >>> ((4 : Int32) &&& 31).toUInt32).toInt32.toUInt32 >>> ((2 : Int32) &&& 31).toUInt32).toInt32.toUInt32 >>> ((1 : Int32) &&& 31).toUInt32).toInt32))]) (fun t k => XS.iconst X0.here hx rfl (B d14_75) (XS.iushr X0.here hx rfl (B d14_76) rfl (XS.isub X0.here hx rfl (B d14_77) rfl k))) ?_
      refine GoW.retI X0 hx Bd.returns (B d14_78) Bd.notSynchronized ?_ (by decide) (by decide)
      have hq : (F14 q1) = ((1 : Int32) - (((((q1.toUInt32 >>> ((16 : Int32) &&& 31).toUInt32).toInt32.toUInt32 >>> ((8 : Int32) &&& 31).toUInt32).toInt32.toUInt32 >>> ((4 : Int32) &&& 31).toUInt32).toInt32.toUInt32 >>> ((2 : Int32) &&& 31).toUInt32).toInt32.toUInt32 >>> ((1 : Int32) &&& 31).toUInt32).toInt32) := by unfold F14; rw [if_pos c6, if_neg c7, if_neg c15, if_neg c19, if_neg c21]; try rfl
      exact ⟨by rw [hq] <;> rfl, N0, e0⟩
 ·refine GoW.sg (mkF m 5 #[.val (.int q1), .unset] [(.int q1)]) (fun t k => XS.ifNo X0.here hx rfl (B d14_1) rfl ((if0 _ _).trans (flt c6).2.2.1) (XS.iloadN X0.here hx rfl (B d14_4) rfl k)) ?_
  by_cases c22 : q1 = (0 : Int32)
  ·refine GoW.sg (mkF m 14 #[.val (.int q1), .unset] [(.int 32)]) (fun t k => XS.ifNo X0.here hx rfl (B d14_5) rfl ((if0 _ _).trans (teq c22).2) (XS.bipush X0.here hx rfl (B d14_8) (XS.goto X0.here hx rfl (pc0 := 10) (pc' := 14) rfl (B d14_10) (by decide) (by decide) k))) ?_
   refine GoW.retI X0 hx Bd.returns (B d14_14) Bd.notSynchronized ?_ (by decide) (by decide)
   have hq : (F14 q1) = (32 : Int32) := by unfold F14; rw [if_neg c6, if_pos c22]; try rfl
   exact ⟨by rw [hq] <;> rfl, N0, e0⟩
  ·refine GoW.sg (mkF m 14 #[.val (.int q1), .unset] [(.int 0)]) (fun t k => XS.ifYes X0.here hx rfl (pc0 := 5) (pc' := 13) rfl (B d14_5) rfl ((if0 _ _).trans (feq c22).2) (by decide) (by decide) (XS.iconst X0.here hx rfl (B d14_13) k)) ?_
   refine GoW.retI X0 hx Bd.returns (B d14_14) Bd.notSynchronized ?_ (by decide) (by decide)
   have hq : (F14 q1) = (0 : Int32) := by unfold F14; rw [if_neg c6, if_neg c22]; try rfl
   exact ⟨by rw [hq] <;> rfl, N0, e0⟩
def F13 (q1 : Int64) : Int32 := (if (q1.toUInt64 >>> ((32 : Int32) &&& 0x3f).toInt64.toUInt64).toInt64.toInt32 = (0 : Int32) then ((32 : Int32) + (F14 q1.toInt32)) else (F14 (q1.toUInt64 >>> ((32 : Int32) &&& 0x3f).toInt64.toUInt64).toInt64.toInt32))
theorem rm13 (l : Launch) (Z : State) (a0 : Array Value) (hw : HW a0 Z) (q1 : Int64) (h0 : Heap) (n0 : Nat) :
  MM l Z Y13 jdk_35_method_48_code 3 (some .int) 1 0 0 14 #[(.long q1)] h0 (PureQ (.int (F13 q1)) h0 n0) := by
 refine own_start (fun m => (mkF m 0 (Sh1 q1) [])) (plainFor_of_name pn_java_lang_Long) (by simp [entryFrame, mkF, argsToLocals, Value.category]) n0 ?_
 intro p e s m below meth c s₁ Bd hx B hml hZ hown hnm X0 e0 N0
 refine GoW.sg (mkF m 7 (Sh0 q1 ((q1.toUInt64 >>> ((32 : Int32) &&& 0x3f).toInt64.toUInt64).toInt64.toInt32)) [(.int (q1.toUInt64 >>> ((32 : Int32) &&& 0x3f).toInt64.toUInt64).toInt64.toInt32)]) (fun t k => XS.lloadN X0.here hx rfl (B d13_0) rfl (XS.bipush X0.here hx rfl (B d13_1) (XS.lushr X0.here hx rfl (B d13_3) rfl (XS.l2i X0.here hx rfl (B d13_4) rfl (XS.istoreN X0.here hx rfl (B d13_5) rfl (l' := (Sh0 q1 ((q1.toUInt64 >>> ((32 : Int32) &&& 0x3f).toInt64.toUInt64).toInt64.toInt32))) rfl (XS.iloadN X0.here hx rfl (B d13_6) rfl k)))))) ?_
 by_cases c23 : (q1.toUInt64 >>> ((32 : Int32) &&& 0x3f).toInt64.toUInt64).toInt64.toInt32 = (0 : Int32)
 ·refine GoW.sg (mkF m 14 (Sh0 q1 ((q1.toUInt64 >>> ((32 : Int32) &&& 0x3f).toInt64.toUInt64).toInt64.toInt32)) [(.int q1.toInt32), (.int 32)]) (fun t k => XS.ifNo X0.here hx rfl (B d13_7) rfl ((if0 _ _).trans (teq c23).2) (XS.bipush X0.here hx rfl (B d13_10) (XS.lloadN X0.here hx rfl (B d13_12) rfl (XS.l2i X0.here hx rfl (B d13_13) rfl k)))) ?_
  obtain ⟨_, T24, L24, X24, hQ24, st24⟩ := own_callS X0 hx hZ hown (y := Y14) (ww hw 63 rfl) (ww hw 64 rfl) (ww hw 65 rfl) (ww hw 66 rfl) (by decide) 1 (rm14 l Z a0 hw q1.toInt32 h0 n0) (by decide) (by decide) e0 (by decide) (by decide) (g := (mkF m 14 (Sh0 q1 ((q1.toUInt64 >>> ((32 : Int32) &&& 0x3f).toInt64.toUInt64).toInt64.toInt32)) [(.int q1.toInt32), (.int 32)])) rfl (by rw [hml]; rfl) (argsL := [(.int q1.toInt32)]) (rest := [(.int (32 : Int32))]) (lenOf pd_28I29I rfl) rfl (Nat.le_of_eq rfl) (B d13_14)
  obtain ⟨rfl, N24q, e24⟩ := hQ24
  have N24 := Fr.app N0 N24q
  refine GoW.sg (mkF m 17 (Sh0 q1 ((q1.toUInt64 >>> ((32 : Int32) &&& 0x3f).toInt64.toUInt64).toInt64.toInt32)) [(.int (F14 q1.toInt32)), (.int 32)]) (fun t k => st24 t k) ?_
  refine GoW.sg (mkF m 25 (Sh0 q1 ((q1.toUInt64 >>> ((32 : Int32) &&& 0x3f).toInt64.toUInt64).toInt64.toInt32)) [(.int ((32 : Int32) + (F14 q1.toInt32)))]) (fun t k => XS.iadd X24.here hx rfl (B d13_17) rfl (XS.goto X24.here hx rfl (pc0 := 18) (pc' := 25) rfl (B d13_18) (by decide) (by decide) k)) ?_
  refine GoW.retI X24 hx Bd.returns (B d13_25) Bd.notSynchronized ?_ (by decide) (by decide)
  have hq : (F13 q1) = ((32 : Int32) + (F14 q1.toInt32)) := by unfold F13; rw [if_pos c23]; try rfl
  exact ⟨by rw [hq] <;> rfl, N24, e24⟩
 ·refine GoW.sg (mkF m 22 (Sh0 q1 ((q1.toUInt64 >>> ((32 : Int32) &&& 0x3f).toInt64.toUInt64).toInt64.toInt32)) [(.int (q1.toUInt64 >>> ((32 : Int32) &&& 0x3f).toInt64.toUInt64).toInt64.toInt32)]) (fun t k => XS.ifYes X0.here hx rfl (pc0 := 7) (pc' := 21) rfl (B d13_7) rfl ((if0 _ _).trans (feq c23).2) (by decide) (by decide) (XS.iloadN X0.here hx rfl (B d13_21) rfl k)) ?_
  obtain ⟨_, T25, L25, X25, hQ25, st25⟩ := own_callS X0 hx hZ hown (y := Y14) (ww hw 63 rfl) (ww hw 64 rfl) (ww hw 65 rfl) (ww hw 66 rfl) (by decide) 0 (rm14 l Z a0 hw (q1.toUInt64 >>> ((32 : Int32) &&& 0x3f).toInt64.toUInt64).toInt64.toInt32 h0 n0) (by decide) (by decide) e0 (by decide) (by decide) (g := (mkF m 22 (Sh0 q1 ((q1.toUInt64 >>> ((32 : Int32) &&& 0x3f).toInt64.toUInt64).toInt64.toInt32)) [(.int (q1.toUInt64 >>> ((32 : Int32) &&& 0x3f).toInt64.toUInt64).toInt64.toInt32)])) rfl (by rw [hml]; rfl) (argsL := [(.int (q1.toUInt64 >>> ((32 : Int32) &&& 0x3f).toInt64.toUInt64).toInt64.toInt32)]) (rest := []) (lenOf pd_28I29I rfl) rfl (Nat.le_of_eq rfl) (B d13_22)
  obtain ⟨rfl, N25q, e25⟩ := hQ25
  have N25 := Fr.app N0 N25q
  refine GoW.sg (mkF m 25 (Sh0 q1 ((q1.toUInt64 >>> ((32 : Int32) &&& 0x3f).toInt64.toUInt64).toInt64.toInt32)) [(.int (F14 (q1.toUInt64 >>> ((32 : Int32) &&& 0x3f).toInt64.toUInt64).toInt64.toInt32))]) (fun t k => st25 t k) ?_
  refine GoW.retI X25 hx Bd.returns (B d13_25) Bd.notSynchronized ?_ (by decide) (by decide)
  have hq : (F13 q1) = (F14 (q1.toUInt64 >>> ((32 : Int32) &&& 0x3f).toInt64.toUInt64).toInt64.toInt32) := by unfold F13; rw [if_neg c23]; try rfl
  exact ⟨by rw [hq] <;> rfl, N25, e25⟩
theorem own_dnegx (a : UInt64) : FP.dneg a = a ^^^ 0x8000000000000000 := rfl
theorem own_qmin : FP.Core.b64.qmin = -1074 := by decide +kernel
theorem own_qmax : FP.Core.b64.qmax = 971 := by decide +kernel
theorem own_tails : FP.Core.b64.tails = 2 ^ 52 := rfl
theorem own_exps : FP.Core.b64.exps = 2 ^ 11 := by decide +kernel
theorem own_p : FP.Core.b64.p = 53 := rfl
theorem own_round {m L : Nat} (s : Bool) (h1 : 2 ^ L ≤ m) (h2 : m < 2 ^ (L + 1)) (hL : L ≤ 52) : FP.Core.roundRatio FP.Core.b64 s m 1 0 = .fin s (m * 2 ^ (52 - L)) ((L : Int) - 52) := by
  refine FP.Core.roundRatio_exact FP.Core.good_b64 (by decide) ⟨?_, by rw [own_qmin]; omega, by rw [own_qmax]; omega, Or.inr ?_⟩ ?_
  · rw [own_p]
    calc m * 2 ^ (52 - L) < 2 ^ (L + 1) * 2 ^ (52 - L) := Nat.mul_lt_mul_of_pos_right h2 (Nat.two_pow_pos _)
      _ = 2 ^ 53 := by rw [← Nat.pow_add]; congr 1; omega
  · rw [own_tails]
    calc 2 ^ 52 = 2 ^ L * 2 ^ (52 - L) := by rw [← Nat.pow_add]; congr 1; omega
      _ ≤ m * 2 ^ (52 - L) := Nat.mul_le_mul_right _ h1
  · rw [show ((0 : Int) - ((L : Int) - 52)).toNat = 52 - L by omega, show ((L : Int) - 52 - 0).toNat = 0 by omega]; simp
def sg (i : Int) : Nat := if i < 0 then 1 else 0
def mb (m : Nat) : Nat := if m = 0 then 0 else (1022 + m.log2) * 2 ^ 52 + m * 2 ^ (52 - m.log2)
theorem own_mant {m : Nat} (h : m ≠ 0) (hm : m < 2 ^ 53) : m.log2 ≤ 52 ∧ 2 ^ 52 ≤ m * 2 ^ (52 - m.log2) ∧ m * 2 ^ (52 - m.log2) < 2 ^ 53 := by
  have l1 : 2 ^ m.log2 ≤ m := Nat.log2_self_le h
  have l2 : m < 2 ^ (m.log2 + 1) := Nat.lt_log2_self
  have l3 : m.log2 < 53 := (Nat.pow_lt_pow_iff_right (by decide : 1 < 2)).mp (Nat.lt_of_le_of_lt l1 hm)
  generalize m.log2 = L at *
  refine ⟨by omega, ?_, ?_⟩
  · calc 2 ^ 52 = 2 ^ L * 2 ^ (52 - L) := by rw [← Nat.pow_add]; congr 1; omega
      _ ≤ m * 2 ^ (52 - L) := Nat.mul_le_mul_right _ l1
  · calc m * 2 ^ (52 - L) < 2 ^ (L + 1) * 2 ^ (52 - L) := Nat.mul_lt_mul_of_pos_right l2 (Nat.two_pow_pos _)
      _ = 2 ^ 53 := by rw [← Nat.pow_add]; congr 1; omega
theorem own_enc (i : Int) (h : i.natAbs < 2 ^ 53) : FP.Core.fromInt FP.Core.b64 i = sg i * 2 ^ 63 + mb i.natAbs := by
  unfold FP.Core.fromInt
  have hs : FP.Core.ofInt i = .fin (decide (i < 0)) i.natAbs 0 := rfl
  rw [hs]
  show FP.Core.encode FP.Core.b64 (FP.Core.roundRatio FP.Core.b64 (decide (i < 0)) i.natAbs 1 0) = _
  by_cases h0 : i.natAbs = 0
  · have : i = 0 := by omega
    subst this; decide +kernel
  · obtain ⟨h1, h2, h3⟩ := own_mant h0 h
    rw [own_round _ (Nat.log2_self_le h0) Nat.lt_log2_self h1]
    show (if _ < FP.Core.b64.tails then _ else FP.Core.assemble FP.Core.b64 (decide (i < 0)) (((i.natAbs.log2 : Int) - 52 - FP.Core.b64.qmin).toNat + 1) (i.natAbs * 2 ^ (52 - i.natAbs.log2) - FP.Core.b64.tails)) = _
    rw [own_tails, if_neg (by omega)]
    unfold FP.Core.assemble mb sg
    rw [own_tails, own_qmin, own_exps, if_neg h0, show ((i.natAbs.log2 : Int) - 52 - -1074).toNat = i.natAbs.log2 + 1022 by omega]
    generalize i.natAbs * 2 ^ (52 - i.natAbs.log2) = c at *
    generalize i.natAbs.log2 = L at *
    by_cases hi : i < 0
    · simp [hi]; omega
    · simp [hi]; omega
theorem own_mblt {m : Nat} (hm : m < 2 ^ 53) : mb m < 2 ^ 62 + 2 ^ 59 := by
  unfold mb
  by_cases h : m = 0
  · rw [if_pos h]; decide
  · rw [if_neg h]; have := own_mant h hm
    generalize m * 2 ^ (52 - m.log2) = c at *
    omega
theorem own_l2dN (x : Int64) (h : x.toInt.natAbs < 2 ^ 53) : (FP.l2d x).toNat = sg x.toInt * 2 ^ 63 + mb x.toInt.natAbs := by
  show (UInt64.ofNat (FP.Core.fromInt FP.Core.b64 x.toInt)).toNat = _
  rw [own_enc _ h, UInt64.toNat_ofNat']
  refine Nat.mod_eq_of_lt ?_
  have := own_mblt h
  unfold sg; split <;> omega
def nn (x : Int64) : Nat := x.toUInt64.toNat
theorem nn_lt (x : Int64) : nn x < 2 ^ 64 := x.toUInt64.toNat_lt
theorem nn_inj {x y : Int64} (h : nn x = nn y) : x = y := by
  have : x.toUInt64 = y.toUInt64 := UInt64.toNat_inj.mp h
  have e := congrArg UInt64.toInt64 this
  simpa using e
theorem nn_bv (x : Int64) : nn x = x.toBitVec.toNat := rfl
theorem nn_int (x : Int64) : x.toInt = if nn x < 2 ^ 63 then (nn x : Int) else (nn x : Int) - 2 ^ 64 := by
  show x.toBitVec.toInt = _
  rw [BitVec.toInt_eq_toNat_cond, nn_bv]
  have := nn_lt x
  rw [nn_bv] at this
  split <;> split <;> omega
theorem nn_ofInt (x : Int64) : (nn x : Int) = x.toInt % 2 ^ 64 := by
  rw [nn_int]; have := nn_lt x; split <;> omega
theorem nn_add (x y : Int64) : nn (x + y) = (nn x + nn y) % 2 ^ 64 := by
  rw [nn_bv, nn_bv, nn_bv, Int64.toBitVec_add, BitVec.toNat_add]
theorem nn_sub (x y : Int64) : nn (x - y) = (2 ^ 64 - nn y + nn x) % 2 ^ 64 := by
  rw [nn_bv, nn_bv, nn_bv, Int64.toBitVec_sub, BitVec.toNat_sub]
theorem nn_or (x y : Int64) : nn (x ||| y) = nn x ||| nn y := by
  rw [nn_bv, nn_bv, nn_bv, Int64.toBitVec_or, BitVec.toNat_or]
theorem nn_and (x y : Int64) : nn (x &&& y) = nn x &&& nn y := by
  rw [nn_bv, nn_bv, nn_bv, Int64.toBitVec_and, BitVec.toNat_and]
theorem own_cnt (t : Int32) (k : Nat) (h : t.toInt = k) (hk : k < 64) : ((t &&& 0x3f).toInt64).toBitVec = BitVec.ofNat 64 k := by
  have ht : t = Int32.ofNat k := by
    apply Int32.toInt_inj.mp; rw [h, Int32.toInt_ofNat_of_lt (by omega)]
  subst ht
  clear h
  revert k; decide
theorem nn_shl (x : Int64) (t : Int32) (k : Nat) (h : t.toInt = k) (hk : k < 64) : nn (x <<< (t &&& 0x3f).toInt64) = nn x * 2 ^ k % 2 ^ 64 := by
  rw [nn_bv, nn_bv, Int64.toBitVec_shiftLeft, own_cnt t k h hk]
  rw [BitVec.shiftLeft_eq', BitVec.toNat_shiftLeft]
  rw [show ((BitVec.ofNat 64 k).smod 64).toNat = k by clear h t x; revert k; decide]
  rw [Nat.shiftLeft_eq]
theorem nn_shr (x : Int64) (t : Int32) (k : Nat) (h : t.toInt = k) (hk : k < 64) : nn ((x.toUInt64 >>> (t &&& 0x3f).toInt64.toUInt64).toInt64) = nn x / 2 ^ k := by
  show (x.toUInt64 >>> (t &&& 0x3f).toInt64.toUInt64).toNat = _
  rw [UInt64.toNat_shiftRight]
  have e : ((t &&& 0x3f).toInt64.toUInt64).toNat = k := by
    show ((t &&& 0x3f).toInt64).toBitVec.toNat = k
    rw [own_cnt t k h hk, BitVec.toNat_ofNat]; omega
  rw [e, Nat.mod_eq_of_lt hk, Nat.shiftRight_eq_div_pow]; rfl
theorem nn_sar (x : Int64) (t : Int32) (k : Nat) (h : t.toInt = k) (hk : k < 64) : (x >>> (t &&& 0x3f).toInt64).toInt = x.toInt / 2 ^ k := by
  show (x >>> (t &&& 0x3f).toInt64).toBitVec.toInt = _
  rw [Int64.toBitVec_shiftRight, own_cnt t k h hk]
  rw [show ((BitVec.ofNat 64 k).smod 64) = BitVec.ofNat 64 k by clear h t x; revert k; decide]
  rw [BitVec.sshiftRight_eq', BitVec.toInt_sshiftRight, BitVec.toNat_ofNat, Int.shiftRight_eq_div_pow]
  rw [Nat.mod_eq_of_lt (by omega)]; rfl
theorem nn_mask (x y : Int64) (k : Nat) (h : nn y = 2 ^ k - 1) : nn (x &&& y) = nn x % 2 ^ k := by
  rw [nn_and, h, Nat.and_two_pow_sub_one_eq_mod]
theorem own_T (y : UInt32) (k : Int32) (n : Nat) (h : (k &&& 31).toUInt32.toNat = n) (hn : n < 32) : (y >>> (k &&& 31).toUInt32).toNat = y.toNat / 2 ^ n := by
  rw [UInt32.toNat_shiftRight, h, Nat.mod_eq_of_lt hn, Nat.shiftRight_eq_div_pow]
theorem own_J (y : UInt32) (h : y.toNat < 2 ^ 31) : y.toInt32.toInt = y.toNat := by
  show y.toBitVec.toInt = _
  rw [BitVec.toInt_eq_toNat_cond]
  show (if 2 * y.toNat < 2 ^ 32 then _ else _) = _
  rw [if_pos (by omega)]; rfl
theorem own_S (y : UInt32) (k : Int32) (n : Nat) (h : (k &&& 31).toUInt32.toNat = n) (hn : n < 32) (h1 : 1 ≤ n) : (y >>> (k &&& 31).toUInt32).toInt32.toInt = ((y.toNat / 2 ^ n : Nat) : Int) := by
  have t := own_T y k n h hn
  rw [own_J _ ?_, t]
  rw [t]
  have := y.toNat_lt
  calc y.toNat / 2 ^ n ≤ y.toNat / 2 ^ 1 := Nat.div_le_div_left (Nat.pow_le_pow_right (by decide) h1) (by decide)
    _ < 2 ^ 31 := by omega
theorem own_log {N k : Nat} (h1 : 2 ^ k ≤ N) (h2 : N < 2 ^ (k + 1)) : N.log2 = k := by
  have h0 : N ≠ 0 := by have := Nat.two_pow_pos k; omega
  exact (Nat.log2_eq_iff h0).mpr ⟨h1, h2⟩
theorem own_leaf {c : Int32} {y : UInt32} {N s : Nat} (hc : c.toInt = 31 - s) (hs : s ≤ 30) (hy : y.toNat = N / 2 ^ s) (h1 : 1 ≤ N / 2 ^ s) (h3 : N / 2 ^ s ≤ 3) : (c - (y >>> ((1 : Int32) &&& 31).toUInt32).toInt32).toInt = 31 - (N.log2 : Int) := by
  have e := own_S y 1 1 (by decide) (by decide) (by decide)
  rw [Int32.toInt_sub, e, hc, hy]
  have hp := Nat.two_pow_pos s
  have d := Nat.div_add_mod N (2 ^ s)
  have ml := Nat.mod_lt N hp
  by_cases q : N / 2 ^ s = 1
  · rw [q, Nat.mul_one] at d
    rw [own_log (k := s) (by omega) (by rw [Nat.pow_succ]; omega), q]
    rw [Int.bmod_eq_of_le (by omega) (by omega)]; omega
  · have : N / 2 ^ s / 2 ^ 1 = 1 := by omega
    rw [this]
    have l : N.log2 = s + 1 := own_log (by
      have : 2 ^ s * 2 ≤ 2 ^ s * (N / 2 ^ s) := Nat.mul_le_mul_left _ (by omega)
      rw [Nat.pow_succ]; omega) (by
      have : 2 ^ s * (N / 2 ^ s) ≤ 2 ^ s * 3 := Nat.mul_le_mul_left _ h3
      rw [Nat.pow_succ, Nat.pow_succ]; omega)
    rw [l, Int.bmod_eq_of_le (by omega) (by omega)]; omega
theorem own_F14 (x : Int32) (N : Nat) (hx : x.toUInt32.toNat = N) (h0 : 1 ≤ N) : (F14 x).toInt = 31 - (N.log2 : Int) := by
  have hlt : N < 2 ^ 32 := by rw [← hx]; exact x.toUInt32.toNat_lt
  have hxi : x.toInt = if N < 2 ^ 31 then (N : Int) else (N : Int) - 2 ^ 32 := by
    show x.toBitVec.toInt = _
    rw [BitVec.toInt_eq_toNat_cond]
    show (if 2 * x.toUInt32.toNat < 2 ^ 32 then (x.toUInt32.toNat : Int) else (x.toUInt32.toNat : Int) - _) = _
    rw [hx]; split <;> split <;> omega
  unfold F14
  by_cases hn : N < 2 ^ 31
  · rw [if_pos hn] at hxi
    rw [if_pos (by rw [Int32.lt_iff_toInt_lt, hxi]; show (0 : Int) < _; omega)]
    have s1 := fun y => own_S y 1 1 (by decide) (by decide) (by decide)
    have s2 := fun y => own_S y 2 2 (by decide) (by decide) (by decide)
    have s4 := fun y => own_S y 4 4 (by decide) (by decide) (by decide)
    have s8 := fun y => own_S y 8 8 (by decide) (by decide) (by decide)
    have s16 := fun y => own_S y 16 16 (by decide) (by decide) (by decide)
    have t2 := fun y => own_T y 2 2 (by decide) (by decide)
    have t4 := fun y => own_T y 4 4 (by decide) (by decide)
    have t8 := fun y => own_T y 8 8 (by decide) (by decide)
    have t16 := fun y => own_T y 16 16 (by decide) (by decide)
    have l1 : (65536 : Int32).toInt = 65536 := by decide
    have l2 : (256 : Int32).toInt = 256 := by decide
    have l3 : (16 : Int32).toInt = 16 := by decide
    have l4 : (4 : Int32).toInt = 4 := by decide
    simp only [Int32.lt_iff_toInt_lt, UInt32.toUInt32_toInt32, s2, s4, s8, s16, t2, t4, t8, t16, hx, hxi, l1, l2, l3, l4]
    repeat' split
    all_goals first
      | exact own_leaf (s := 0) (by decide) (by decide) (by rw [hx]; omega) (by omega) (by omega)
      | exact own_leaf (s := 2) (by decide) (by decide) (by simp only [t2, hx]) (by omega) (by omega)
      | exact own_leaf (s := 4) (by decide) (by decide) (by simp only [t4, hx]) (by omega) (by omega)
      | exact own_leaf (s := 6) (by decide) (by decide) (by simp only [t2, t4, hx]; omega) (by omega) (by omega)
      | exact own_leaf (s := 8) (by decide) (by decide) (by simp only [t8, hx]) (by omega) (by omega)
      | exact own_leaf (s := 10) (by decide) (by decide) (by simp only [t2, t8, hx]; omega) (by omega) (by omega)
      | exact own_leaf (s := 12) (by decide) (by decide) (by simp only [t4, t8, hx]; omega) (by omega) (by omega)
      | exact own_leaf (s := 14) (by decide) (by decide) (by simp only [t2, t4, t8, hx]; omega) (by omega) (by omega)
      | exact own_leaf (s := 16) (by decide) (by decide) (by simp only [t16, hx]) (by omega) (by omega)
      | exact own_leaf (s := 18) (by decide) (by decide) (by simp only [t2, t16, hx]; omega) (by omega) (by omega)
      | exact own_leaf (s := 20) (by decide) (by decide) (by simp only [t4, t16, hx]; omega) (by omega) (by omega)
      | exact own_leaf (s := 22) (by decide) (by decide) (by simp only [t2, t4, t16, hx]; omega) (by omega) (by omega)
      | exact own_leaf (s := 24) (by decide) (by decide) (by simp only [t8, t16, hx]; omega) (by omega) (by omega)
      | exact own_leaf (s := 26) (by decide) (by decide) (by simp only [t2, t8, t16, hx]; omega) (by omega) (by omega)
      | exact own_leaf (s := 28) (by decide) (by decide) (by simp only [t4, t8, t16, hx]; omega) (by omega) (by omega)
      | exact own_leaf (s := 30) (by decide) (by decide) (by simp only [t2, t4, t8, t16, hx]; omega) (by omega) (by omega)
  · rw [if_neg hn] at hxi
    rw [if_neg (by rw [Int32.lt_iff_toInt_lt, hxi]; show ¬ (0 : Int) < _; omega)]
    rw [if_neg (by intro q; rw [q] at hxi; revert hxi; show (0 : Int) = _ → _; omega), own_log (k := 31) (by omega) (by omega)]; decide
def dig (mm t : Nat) : Int64 := if t = 33 then Int64.ofNat (mm * 2 ^ 18 % 2 ^ 32) else if t = 34 then Int64.ofNat (mm * 2 ^ 18 / 2 ^ 32) else 0
def mant (mm : Nat) : Int64 := Int64.ofNat (mm * 2 ^ (52 - mm.log2))
def lb (mm : Nat) : Int64 := (FP.l2d (Int64.ofNat mm)).toInt64
def Mk (mm : Nat) : Prop := 1 ≤ mm ∧ mm ≤ 2 ^ 32
def Nr (mm : Nat) (x : Int32) : Prop := Mk mm ∧ x.toInt = 1075 + mm.log2
def Bf (mm : Nat) (x : Int32) : Prop := Mk mm ∧ x.toInt = 1022 + mm.log2
def Bt (mm : Nat) (x : Int32) : Prop := Mk mm ∧ x.toInt = 1021 + mm.log2
def jb (mm : Nat) : Nat := if mm.log2 ≤ 2 then 31 else 32
theorem nn_oN (n : Nat) (h : n < 2 ^ 64) : nn (Int64.ofNat n) = n := by
  show (BitVec.ofNat 64 n).toNat = n
  rw [BitVec.toNat_ofNat]; exact Nat.mod_eq_of_lt h
theorem own_oN64 (n : Nat) (h : n < 2 ^ 63) : (Int64.ofNat n).toInt = n := by
  rw [nn_int, nn_oN n (by omega), if_pos h]
theorem nn_d33 (mm : Nat) : nn (dig mm 33) = mm * 2 ^ 18 % 2 ^ 32 := nn_oN _ (by omega)
theorem nn_d34 {mm : Nat} (h : mm ≤ 2 ^ 32) : nn (dig mm 34) = mm * 2 ^ 18 / 2 ^ 32 := nn_oN _ (by omega)
theorem own_mk {mm : Nat} (h : Mk mm) : mm.log2 ≤ 32 ∧ 2 ^ mm.log2 ≤ mm ∧ mm < 2 ^ (mm.log2 + 1) ∧ mm ≤ 2 ^ 32 := by
  have h0 : mm ≠ 0 := by have := h.1; omega
  have l1 := Nat.log2_self_le h0
  refine ⟨?_, l1, Nat.lt_log2_self, h.2⟩
  have : 2 ^ mm.log2 < 2 ^ 33 := Nat.lt_of_le_of_lt (Nat.le_trans l1 h.2) (by decide)
  have := (Nat.pow_lt_pow_iff_right (by decide : 1 < 2)).mp this
  omega
theorem own_n32 {x : Int32} (h : 0 ≤ x.toInt) : (x.toUInt32.toNat : Int) = x.toInt := by
  have e : x.toInt = if x.toUInt32.toNat < 2 ^ 31 then (x.toUInt32.toNat : Int) else (x.toUInt32.toNat : Int) - 2 ^ 32 := by
    show x.toBitVec.toInt = _
    rw [BitVec.toInt_eq_toNat_cond]
    show (if 2 * x.toUInt32.toNat < 2 ^ 32 then (x.toUInt32.toNat : Int) else (x.toUInt32.toNat : Int) - _) = _
    split <;> split <;> omega
  have := x.toUInt32.toNat_lt
  split at e <;> omega
theorem own_i5 {x : Int32} (h : 0 ≤ x.toInt) : (x.toUInt32 >>> ((5 : Int32) &&& 31).toUInt32).toInt32.toInt = x.toInt / 32 := by
  rw [own_S x.toUInt32 5 5 (by decide) (by decide) (by decide)]
  have := own_n32 h
  omega
theorem own_a31 {x : Int32} (h : 0 ≤ x.toInt) : (x &&& (31 : Int32)).toInt = x.toInt % 32 := by
  have e : (x &&& (31 : Int32)).toUInt32.toNat = x.toUInt32.toNat % 32 := by
    show (x.toUInt32 &&& (31 : UInt32)).toNat = _
    rw [UInt32.toNat_and]; exact Nat.and_two_pow_sub_one_eq_mod _ 5
  have k : (x &&& (31 : Int32)).toInt = ((x &&& (31 : Int32)).toUInt32.toNat : Int) := own_J (x &&& (31 : Int32)).toUInt32 (by omega)
  rw [k, e]; have := own_n32 h; omega
theorem own_s32 {x y : Int32} {a b : Int} (hx : x.toInt = a) (hy : y.toInt = b) (h1 : -2147483648 ≤ a - b) (h2 : a - b < 2147483648) : (x - y).toInt = a - b := by
  rw [Int32.toInt_sub, hx, hy]; exact Int.bmod_eq_of_le (by omega) (by omega)
theorem own_p32 {x y : Int32} {a b : Int} (hx : x.toInt = a) (hy : y.toInt = b) (h1 : -2147483648 ≤ a + b) (h2 : a + b < 2147483648) : (x + y).toInt = a + b := by
  rw [Int32.toInt_add, hx, hy]; exact Int.bmod_eq_of_le (by omega) (by omega)
theorem own_shz (n : UInt64) : ((0 : Int64).toUInt64 >>> n).toInt64 = 0 := by
  have : (0 : Int64).toUInt64 = 0 := rfl
  rw [this]; simp
theorem own_btI {mm : Nat} {x : Int32} (hB : Bt mm x) : Ix 36 (x.toUInt32 >>> ((5 : Int32) &&& 31).toUInt32).toInt32 (jb mm) := by
  obtain ⟨hm, hx⟩ := hB
  have hL := (own_mk hm).1
  have e := own_i5 (x := x) (by omega)
  have z : (0 : Int32).toInt = 0 := rfl
  have n : (36 : Int32).toNatClampNeg = 36 := by decide
  unfold jb
  refine ⟨by rw [Int32.lt_iff_toInt_lt, e, z]; omega, ?_, by rw [n]; split <;> omega⟩
  unfold Int32.toNatClampNeg; rw [e]; split <;> omega
theorem own_btZ {mm : Nat} {x : Int32} (hB : Bt mm x) : dig mm (jb mm) = 0 := by
  unfold jb; split <;> rfl
theorem own_bfT {mm : Nat} {x : Int32} (hB : Bf mm x) : mm.log2 ≤ 32 ∧ (x.toUInt32 >>> ((5 : Int32) &&& 31).toUInt32).toInt32.toInt = (1022 + mm.log2) / 32 ∧ ((32 : Int32) - (x &&& (31 : Int32))).toInt = 32 - (1022 + mm.log2) % 32 ∧ (((32 : Int32) - (x &&& (31 : Int32))) + (32 : Int32)).toInt = 64 - (1022 + mm.log2) % 32 ∧ ((((32 : Int32) - (x &&& (31 : Int32))) + (32 : Int32)) + (32 : Int32)).toInt = 96 - (1022 + mm.log2) % 32 := by
  obtain ⟨hm, hx⟩ := hB
  have hL := (own_mk hm).1
  have e := own_i5 (x := x) (by omega)
  have a := own_a31 (x := x) (by omega)
  rw [hx] at a e
  have c : (32 : Int32).toInt = 32 := by decide
  have t1 := own_s32 c a (by omega) (by omega)
  have t2 := own_p32 t1 c (by omega) (by omega)
  have t3 := own_p32 t2 c (by omega) (by omega)
  refine ⟨hL, e, t1, ?_, ?_⟩
  · rw [t2]; omega
  · rw [t3]; omega
theorem own_bf {mm : Nat} {x : Int32} (hB : Bf mm x) : ((x.toUInt32 >>> ((5 : Int32) &&& 31).toUInt32).toInt32 = (31 : Int32) ∧ ¬ ((52 : Int32) < ((32 : Int32) - (x &&& (31 : Int32)))) ∧ ¬ ((52 : Int32) < (((32 : Int32) - (x &&& (31 : Int32))) + (32 : Int32))) ∧ (52 : Int32) < ((((32 : Int32) - (x &&& (31 : Int32))) + (32 : Int32)) + (32 : Int32))) ∨
    ((x.toUInt32 >>> ((5 : Int32) &&& 31).toUInt32).toInt32 = (32 : Int32) ∧ ¬ ((52 : Int32) < ((32 : Int32) - (x &&& (31 : Int32)))) ∧ (52 : Int32) < (((32 : Int32) - (x &&& (31 : Int32))) + (32 : Int32))) ∨
    ((x.toUInt32 >>> ((5 : Int32) &&& 31).toUInt32).toInt32 = (32 : Int32) ∧ ¬ ((52 : Int32) < ((32 : Int32) - (x &&& (31 : Int32)))) ∧ ¬ ((52 : Int32) < (((32 : Int32) - (x &&& (31 : Int32))) + (32 : Int32))) ∧ (52 : Int32) < ((((32 : Int32) - (x &&& (31 : Int32))) + (32 : Int32)) + (32 : Int32))) := by
  obtain ⟨hL, h0, h1, h2, h3⟩ := own_bfT hB
  have c : (52 : Int32).toInt = 52 := by decide
  have c31 : (31 : Int32).toInt = 31 := by decide
  have c32 : (32 : Int32).toInt = 32 := by decide
  simp only [Int32.lt_iff_toInt_lt, ← Int32.toInt_inj, h0, h1, h2, h3, c, c31, c32]
  omega
theorem own_or0 (y : Int64) : (0 : Int64) ||| y = y := by simp
theorem own_sh0 (n : Int64) : (0 : Int64) <<< n = 0 := by
  apply nn_inj; rw [nn_bv, Int64.toBitVec_shiftLeft]; simp; rfl
theorem nn_m53 (y : Int64) : nn (y &&& (9007199254740991 : Int64)) = nn y % 2 ^ 53 := nn_mask _ _ 53 (by decide)
theorem own_mtN {mm : Nat} (h : Mk mm) : nn (mant mm) = mm * 2 ^ (52 - mm.log2) ∧ mm * 2 ^ (52 - mm.log2) < 2 ^ 53 := by
  have := own_mant (m := mm) (by have := h.1; omega) (Nat.lt_of_le_of_lt h.2 (by decide))
  exact ⟨nn_oN _ (by omega), this.2.2⟩
theorem own_bfA {mm : Nat} {x : Int32} (hB : Bf mm x) (vv : (x.toUInt32 >>> ((5 : Int32) &&& 31).toUInt32).toInt32 = (31 : Int32)) : (((((0 : Int64).toUInt64 >>> ((x &&& (31 : Int32)) &&& 0x3f).toInt64.toUInt64).toInt64 ||| ((0 : Int64) <<< (((32 : Int32) - (x &&& (31 : Int32))) &&& 0x3f).toInt64)) ||| ((dig mm 33) <<< ((((32 : Int32) - (x &&& (31 : Int32))) + (32 : Int32)) &&& 0x3f).toInt64)) &&& (9007199254740991 : Int64)) = mant mm := by
  obtain ⟨hL, h0, h1, h2, h3⟩ := own_bfT hB
  have c31 : (31 : Int32).toInt = 31 := by decide
  rw [vv, c31] at h0
  obtain ⟨-, m1, m2, m3⟩ := own_mk hB.1
  rw [own_shz, own_sh0, own_or0, own_or0]
  apply nn_inj
  rw [nn_m53, nn_shl _ _ (34 - mm.log2) (by rw [h2]; omega) (by omega), nn_d33, (own_mtN hB.1).1]
  have hL' : mm.log2 = 0 ∨ mm.log2 = 1 := by omega
  rcases hL' with q | q <;> rw [q] at m2 ⊢ <;> omega
theorem own_bfB {mm : Nat} {x : Int32} (hB : Bf mm x) (vv : (x.toUInt32 >>> ((5 : Int32) &&& 31).toUInt32).toInt32 = (32 : Int32)) (y2 : (52 : Int32) < (((32 : Int32) - (x &&& (31 : Int32))) + (32 : Int32))) : ((((0 : Int64).toUInt64 >>> ((x &&& (31 : Int32)) &&& 0x3f).toInt64.toUInt64).toInt64 ||| ((dig mm 33) <<< (((32 : Int32) - (x &&& (31 : Int32))) &&& 0x3f).toInt64)) &&& (9007199254740991 : Int64)) = mant mm := by
  obtain ⟨hL, h0, h1, h2, h3⟩ := own_bfT hB
  have c32 : (32 : Int32).toInt = 32 := by decide
  have c : (52 : Int32).toInt = 52 := by decide
  rw [vv, c32] at h0
  rw [Int32.lt_iff_toInt_lt, c, h2] at y2
  obtain ⟨-, m1, m2, m3⟩ := own_mk hB.1
  obtain ⟨k1, k2⟩ := own_mtN hB.1
  rw [own_shz, own_or0]
  apply nn_inj
  rw [nn_m53, nn_shl _ _ (34 - mm.log2) (by rw [h1]; omega) (by omega), nn_d33, k1]
  have hlt : mm < 2 ^ 14 := Nat.lt_of_lt_of_le m2 (Nat.pow_le_pow_right (by decide) (by omega))
  rw [Nat.mod_eq_of_lt (by omega : mm * 2 ^ 18 < 2 ^ 32), Nat.mul_assoc, ← Nat.pow_add, show 18 + (34 - mm.log2) = 52 - mm.log2 by omega, Nat.mod_eq_of_lt (Nat.lt_trans k2 (by decide)), Nat.mod_eq_of_lt k2]
theorem own_bfD {mm : Nat} {x : Int32} (hB : Bf mm x) (vv : (x.toUInt32 >>> ((5 : Int32) &&& 31).toUInt32).toInt32 = (32 : Int32)) (y2 : ¬ ((52 : Int32) < (((32 : Int32) - (x &&& (31 : Int32))) + (32 : Int32)))) : (((((0 : Int64).toUInt64 >>> ((x &&& (31 : Int32)) &&& 0x3f).toInt64.toUInt64).toInt64 ||| ((dig mm 33) <<< (((32 : Int32) - (x &&& (31 : Int32))) &&& 0x3f).toInt64)) ||| ((dig mm 34) <<< ((((32 : Int32) - (x &&& (31 : Int32))) + (32 : Int32)) &&& 0x3f).toInt64)) &&& (9007199254740991 : Int64)) = mant mm := by
  obtain ⟨hL, h0, h1, h2, h3⟩ := own_bfT hB
  have c32 : (32 : Int32).toInt = 32 := by decide
  have c : (52 : Int32).toInt = 52 := by decide
  rw [vv, c32] at h0
  rw [Int32.lt_iff_toInt_lt, c, h2] at y2
  obtain ⟨-, m1, m2, m3⟩ := own_mk hB.1
  obtain ⟨k1, k2⟩ := own_mtN hB.1
  rw [own_shz, own_or0]
  apply nn_inj
  rw [nn_m53, nn_or, nn_shl _ _ (34 - mm.log2) (by rw [h1]; omega) (by omega), nn_shl _ _ (66 - mm.log2) (by rw [h2]; omega) (by omega), nn_d33, nn_d34 m3, k1]
  have e : mm * 2 ^ (52 - mm.log2) = (mm * 2 ^ 18 % 2 ^ 32) * 2 ^ (34 - mm.log2) + (mm * 2 ^ 18 / 2 ^ 32) * 2 ^ (66 - mm.log2) := by
    rw [show (2 : Nat) ^ (66 - mm.log2) = 2 ^ 32 * 2 ^ (34 - mm.log2) by rw [← Nat.pow_add]; congr 1; omega, ← Nat.mul_assoc, ← Nat.add_mul, show mm * 2 ^ 18 % 2 ^ 32 + mm * 2 ^ 18 / 2 ^ 32 * 2 ^ 32 = mm * 2 ^ 18 by omega, Nat.mul_assoc, ← Nat.pow_add]
    congr 2; omega
  have b : (mm * 2 ^ 18 % 2 ^ 32) * 2 ^ (34 - mm.log2) < 2 ^ (66 - mm.log2) := by
    rw [show (2 : Nat) ^ (66 - mm.log2) = 2 ^ 32 * 2 ^ (34 - mm.log2) by rw [← Nat.pow_add]; congr 1; omega]
    exact Nat.mul_lt_mul_of_pos_right (Nat.mod_lt _ (by decide)) (Nat.two_pow_pos _)
  have o := Nat.two_pow_add_eq_or_of_lt b (mm * 2 ^ 18 / 2 ^ 32)
  rw [Nat.mul_comm (2 ^ (66 - mm.log2))] at o
  rw [e] at k2 ⊢
  generalize mm * 2 ^ 18 % 2 ^ 32 * 2 ^ (34 - mm.log2) = A at *
  generalize mm * 2 ^ 18 / 2 ^ 32 * 2 ^ (66 - mm.log2) = B at *
  rw [Nat.mod_eq_of_lt (by omega : A < 2 ^ 64), Nat.mod_eq_of_lt (by omega : B < 2 ^ 64), Nat.or_comm, ← o, Nat.mod_eq_of_lt (by omega)]; omega
theorem own_n53 {mm : Nat} {x : Int32} (hN : Nr mm x) : (53 : Int32) < x := by
  have c : (53 : Int32).toInt = 53 := by decide
  rw [Int32.lt_iff_toInt_lt, c, hN.2]; omega
theorem own_nbf {mm : Nat} {x : Int32} (hN : Nr mm x) : Bf mm (x - (53 : Int32)) := by
  have hL := (own_mk hN.1).1
  have c : (53 : Int32).toInt = 53 := by decide
  refine ⟨hN.1, ?_⟩
  rw [own_s32 hN.2 c (by omega) (by omega)]; omega
theorem own_nbt {mm : Nat} {x : Int32} (hN : Nr mm x) : Bt mm ((x - (53 : Int32)) - (1 : Int32)) := by
  have hL := (own_mk hN.1).1
  have c : (1 : Int32).toInt = 1 := by decide
  refine ⟨hN.1, ?_⟩
  rw [own_s32 (own_nbf hN).2 c (by omega) (by omega)]; omega
theorem own_lbN {mm : Nat} (h : mm ≤ 2 ^ 32) : nn (lb mm) = mb mm := by
  show (FP.l2d (Int64.ofNat mm)).toNat = _
  have e := own_oN64 mm (by omega)
  rw [own_l2dN _ (by rw [e]; omega), e]
  have : sg (mm : Int) = 0 := by unfold sg; rw [if_neg (by omega)]
  rw [this]; simp
theorem own_near {mm : Nat} {x : Int32} (hN : Nr mm x) : (((Int32.toInt64 (x - (53 : Int32))) <<< ((52 : Int32) &&& 0x3f).toInt64) + (mant mm)) = lb mm := by
  obtain ⟨hL, m1, m2, m3⟩ := own_mk hN.1
  obtain ⟨k1, k2⟩ := own_mtN hN.1
  apply nn_inj
  rw [nn_add, nn_shl _ _ 52 (by decide) (by decide), k1, own_lbN m3]
  have e : nn (Int32.toInt64 (x - (53 : Int32))) = 1022 + mm.log2 := by
    have h : (Int32.toInt64 (x - (53 : Int32))).toInt = 1022 + mm.log2 := by rw [Int32.toInt_toInt64]; exact (own_nbf hN).2
    have := nn_ofInt (Int32.toInt64 (x - (53 : Int32)))
    rw [h] at this; omega
  rw [e]; unfold mb; rw [if_neg (by have := hN.1.1; omega)]
  generalize mm * 2 ^ (52 - mm.log2) = A at *
  omega
theorem own_F13 (x : Int64) (h1 : 1 ≤ nn x) (h2 : nn x < 2 ^ 32) : (F13 x).toInt = 63 - ((nn x).log2 : Int) := by
  have e : nn ((x.toUInt64 >>> ((32 : Int32) &&& 0x3f).toInt64.toUInt64).toInt64) = 0 := by
    rw [nn_shr x 32 32 (by decide) (by decide)]; omega
  have z : (x.toUInt64 >>> ((32 : Int32) &&& 0x3f).toInt64.toUInt64).toInt64 = 0 := nn_inj e
  unfold F13
  rw [z, if_pos (by decide)]
  have lo : x.toInt32.toUInt32.toNat = nn x := by
    show (x.toBitVec.signExtend 32).toNat = _
    rw [nn_bv] at h2 ⊢
    rw [BitVec.signExtend_eq_setWidth_of_le _ (by decide), BitVec.toNat_setWidth]
    exact Nat.mod_eq_of_lt h2
  have f := own_F14 x.toInt32 _ lo h1
  have hl : (nn x).log2 < 32 := by
    have := Nat.log2_self_le (n := nn x) (by omega)
    exact (Nat.pow_lt_pow_iff_right (by decide : 1 < 2)).mp (Nat.lt_of_le_of_lt this h2)
  rw [own_p32 (a := 32) (by decide) f (by omega) (by omega)]; omega
theorem own_nr34 {mm : Nat} (hm : mm ≤ 2 ^ 32) (c : ¬ (dig mm 34) = (0 : Int64)) : Nr mm ((1152 : Int32) - (F13 (dig mm 34))) := by
  have q : nn (dig mm 34) ≠ 0 := fun h => c (nn_inj h)
  have d := nn_d34 hm
  have hk : Mk mm := ⟨by omega, hm⟩
  obtain ⟨hL, m1, m2, -⟩ := own_mk hk
  have f := own_F13 (dig mm 34) (by omega) (by omega)
  have hge : 14 ≤ mm.log2 := by
    have : 2 ^ 14 < 2 ^ (mm.log2 + 1) := by omega
    have := (Nat.pow_lt_pow_iff_right (by decide : 1 < 2)).mp this
    omega
  have hl : (nn (dig mm 34)).log2 = mm.log2 - 14 := by
    rw [d]
    refine own_log ?_ ?_
    · rw [show mm * 2 ^ 18 / 2 ^ 32 = mm / 2 ^ 14 by omega, Nat.le_div_iff_mul_le (by decide), ← Nat.pow_add, show mm.log2 - 14 + 14 = mm.log2 by omega]; exact m1
    · rw [show mm * 2 ^ 18 / 2 ^ 32 = mm / 2 ^ 14 by omega, Nat.div_lt_iff_lt_mul (by decide), ← Nat.pow_add, show mm.log2 - 14 + 1 + 14 = mm.log2 + 1 by omega]; exact m2
  rw [hl] at f
  exact ⟨hk, by rw [own_s32 (a := 1152) (by decide) f (by omega) (by omega)]; omega⟩
theorem own_nr33 {mm : Nat} (hm : mm ≤ 2 ^ 32) (c4 : (dig mm 34) = (0 : Int64)) (c : ¬ (dig mm 33) = (0 : Int64)) : Nr mm ((1120 : Int32) - (F13 (dig mm 33))) := by
  have q : nn (dig mm 33) ≠ 0 := fun h => c (nn_inj h)
  have q4 : nn (dig mm 34) = 0 := by rw [c4]; rfl
  have d := nn_d33 mm
  rw [nn_d34 hm] at q4
  have hk : Mk mm := ⟨by omega, hm⟩
  obtain ⟨hL, m1, m2, -⟩ := own_mk hk
  rw [Nat.mod_eq_of_lt (by omega)] at d
  have f := own_F13 (dig mm 33) (by omega) (by omega)
  have hl : (nn (dig mm 33)).log2 = mm.log2 + 18 := by
    rw [d]
    refine own_log ?_ ?_
    · rw [Nat.pow_add]; exact Nat.mul_le_mul_right _ m1
    · rw [show mm.log2 + 18 + 1 = mm.log2 + 1 + 18 by omega, Nat.pow_add]; exact Nat.mul_lt_mul_of_pos_right m2 (by decide)
  rw [hl] at f
  exact ⟨hk, by rw [own_s32 (a := 1120) (by decide) f (by omega) (by omega)]; omega⟩
theorem own_m0 {mm : Nat} (c3 : (dig mm 33) = (0 : Int64)) (c4 : (dig mm 34) = (0 : Int64)) (hm : mm ≤ 2 ^ 32) : mm = 0 := by
  have q3 : nn (dig mm 33) = 0 := by rw [c3]; rfl
  have q4 : nn (dig mm 34) = 0 := by rw [c4]; rfl
  rw [nn_d34 hm] at q4; rw [nn_d33] at q3; omega
theorem own_z0 {mm : Nat} {sx : Int64} (hs : sx = Int64.ofNat mm) (h : mm = 0) : (0 : UInt64) = FP.l2d sx := by
  subst h; subst hs; decide +kernel
theorem own_hv {mm : Nat} (hm : mm ≤ 2 ^ 32) : ((lb mm).toUInt64 &&& 0x7fffffffffffffff > 0x7ff0000000000000 && (lb mm).toUInt64 &&& 0x0008000000000000 == 0) = false := by
  have e := own_lbN hm
  have l := own_mblt (m := mm) (by omega)
  have h : ¬ ((lb mm).toUInt64 &&& 0x7fffffffffffffff > 0x7ff0000000000000) := by
    intro q
    have q' := UInt64.lt_iff_toNat_lt.mp q
    rw [UInt64.toNat_and] at q'
    have k : (lb mm).toUInt64.toNat &&& (0x7fffffffffffffff : UInt64).toNat ≤ (lb mm).toUInt64.toNat := Nat.and_le_left
    have c : (0x7ff0000000000000 : UInt64).toNat = 0x7ff0000000000000 := by decide
    rw [c] at q'
    unfold nn at e
    omega
  simp [h]
theorem own_dn {mm : Nat} {sx : Int64} (hs : sx.toInt = -(mm : Int)) (hm : 1 ≤ mm ∧ mm ≤ 2 ^ 32) : FP.dneg (FP.l2d (Int64.ofNat mm)) = FP.l2d sx := by
  have e := own_lbN hm.2
  have l := own_mblt (m := mm) (by omega)
  have r := own_l2dN sx (by rw [hs]; omega)
  rw [hs, Int.natAbs_neg, Int.natAbs_natCast] at r
  have : sg (-(mm : Int)) = 1 := by unfold sg; rw [if_pos (by omega)]
  rw [this] at r
  apply UInt64.toNat_inj.mp
  rw [r, own_dnegx, UInt64.toNat_xor]
  change (FP.l2d (Int64.ofNat mm)).toNat = _ at e
  rw [e]
  show mb mm ^^^ 2 ^ 63 = 1 * 2 ^ 63 + mb mm
  have o := Nat.two_pow_add_eq_or_of_lt (i := 63) (b := mb mm) (by omega) 1
  rw [Nat.mul_one] at o
  rw [Nat.one_mul, o]
  apply Nat.eq_of_testBit_eq
  intro i
  rw [Nat.testBit_xor, Nat.testBit_or, Nat.testBit_two_pow]
  by_cases hi : 63 = i
  · subst hi
    have : (mb mm).testBit 63 = false := Nat.testBit_lt_two_pow (by omega)
    rw [this]; rfl
  · simp [hi]
def Bas (su : Int32) (bu : Nat) : Prop := (su = 0 ∧ bu = 0) ∨ (su = 1 ∧ bu = 36)
theorem own_ixB {su : Int32} {bu i : Nat} (hb : Bas su bu) (h : i < 36) : Ix 72 ((su * (36 : Int32)) + (Int32.ofNat i)) (bu + i) := by
  have o : (Int32.ofNat i).toInt = i := Int32.toInt_ofNat_of_lt (by omega)
  have n : (72 : Int32).toNatClampNeg = 72 := by decide
  have z : (0 : Int32).toInt = 0 := rfl
  have e : ((su * (36 : Int32)) + (Int32.ofNat i)).toInt = bu + i := by
    rcases hb with ⟨rfl, rfl⟩ | ⟨rfl, rfl⟩
    · exact own_p32 (a := 0) (by decide) o (by omega) (by omega)
    · exact own_p32 (a := 36) (by decide) o (by omega) (by omega)
  have hb' : bu = 0 ∨ bu = 36 := by rcases hb with ⟨_, q⟩ | ⟨_, q⟩ <;> omega
  refine ⟨by rw [Int32.lt_iff_toInt_lt, e, z]; omega, ?_, by rw [n]; omega⟩
  unfold Int32.toNatClampNeg; rw [e]; omega
def CC (f : Nat → Int64) (bu : Nat) : Nat → Int64
  | 0 => 0
  | i + 1 => ((f (bu + i) + CC f bu i) >>> ((32 : Int32) &&& 0x3f).toInt64)
def DD (f : Nat → Int64) (bu : Nat) (g : Nat → Int64) (i : Nat) : Nat → Int64 := fun t => if t < i then ((f (bu + t) + CC f bu t) &&& (4294967295 : Int64)) else g t
theorem own_DD0 (f : Nat → Int64) (bu : Nat) (g : Nat → Int64) (t : Nat) : up g 0 ((f (bu + 0) + (0 : Int64)) &&& (4294967295 : Int64)) t = DD f bu g 1 t := by
  unfold up DD
  by_cases h : t = 0
  · subst h; rw [if_pos rfl, if_pos (by decide)]; rfl
  · rw [if_neg h, if_neg (by omega)]
theorem own_DDs (f : Nat → Int64) (bu : Nat) (g : Nat → Int64) (i t : Nat) : up (DD f bu g i) i ((f (bu + i) + CC f bu i) &&& (4294967295 : Int64)) t = DD f bu g (i + 1) t := by
  unfold up DD
  by_cases h : t = i
  · subst h; rw [if_pos rfl, if_pos (by omega)]
  · rw [if_neg h]
    by_cases q : t < i
    · rw [if_pos q, if_pos (by omega)]
    · rw [if_neg q, if_neg (by omega)]
def BB (d : Nat → Int64) : Nat → Int64
  | 0 => 1
  | i + 1 => ((((d i ^^^ (-1 : Int64)) &&& (4294967295 : Int64)) + BB d i).toUInt64 >>> ((32 : Int32) &&& 0x3f).toInt64.toUInt64).toInt64
def BD (d : Nat → Int64) (i : Nat) : Nat → Int64 := fun t => if t < i then ((((d t ^^^ (-1 : Int64)) &&& (4294967295 : Int64)) + BB d t) &&& (4294967295 : Int64)) else d t
theorem own_BDi (d : Nat → Int64) (i : Nat) : BD d i i = d i := by unfold BD; rw [if_neg (by omega)]
theorem own_BD0 (d : Nat → Int64) (t : Nat) : up d 0 ((((d 0 ^^^ (-1 : Int64)) &&& (4294967295 : Int64)) + (1 : Int64)) &&& (4294967295 : Int64)) t = BD d 1 t := by
  unfold up BD
  by_cases h : t = 0
  · subst h; rw [if_pos rfl, if_pos (by decide)]; rfl
  · rw [if_neg h, if_neg (by omega)]
theorem own_BDs (d : Nat → Int64) (i t : Nat) : up (BD d i) i ((((d i ^^^ (-1 : Int64)) &&& (4294967295 : Int64)) + BB d i) &&& (4294967295 : Int64)) t = BD d (i + 1) t := by
  unfold up BD
  by_cases h : t = i
  · subst h; rw [if_pos rfl, if_pos (by omega)]
  · rw [if_neg h]
    by_cases q : t < i
    · rw [if_pos q, if_pos (by omega)]
    · rw [if_neg q, if_neg (by omega)]
def AA (f g : Nat → Int64) (i : Nat) : Nat → Int64 := fun t => if t < i then f t + g t else f t
def sumF (f g : Nat → Int64) : Nat → Int64 := fun t => f t + g t
theorem own_AAi (f g : Nat → Int64) (i : Nat) : AA f g i i = f i := by unfold AA; rw [if_neg (by omega)]
theorem own_AA0 (f g : Nat → Int64) (t : Nat) : f t = AA f g 0 t := by unfold AA; rw [if_neg (by omega)]
theorem own_AAs (f g : Nat → Int64) (i t : Nat) : up (AA f g i) i (f i + g i) t = AA f g (i + 1) t := by
  unfold up AA
  by_cases h : t = i
  · subst h; rw [if_pos rfl, if_pos (by omega)]
  · rw [if_neg h]
    by_cases q : t < i
    · rw [if_pos q, if_pos (by omega)]
    · rw [if_neg q, if_neg (by omega)]
theorem own_AAe (f g : Nat → Int64) (t : Nat) (ht : t < (72 : Int32).toNatClampNeg) : AA f g 72 t = sumF f g t := by
  have n : (72 : Int32).toNatClampNeg = 72 := by decide
  rw [n] at ht
  unfold AA sumF; rw [if_pos ht]
def SumOK (f : Nat → Int64) (bu : Nat) (sx : Int64) : Prop := (∀ t, t < 36 → t ≠ 33 → t ≠ 34 → f (bu + t) = 0) ∧ (f (bu + 33)).toInt + (f (bu + 34)).toInt * 2 ^ 32 = sx.toInt * 2 ^ 18 ∧ (-2 ^ 34 < (f (bu + 33)).toInt ∧ (f (bu + 33)).toInt < 2 ^ 34) ∧ (-2 ^ 20 < (f (bu + 34)).toInt ∧ (f (bu + 34)).toInt < 2 ^ 20) ∧ (-2 ^ 32 ≤ sx.toInt ∧ sx.toInt ≤ 2 ^ 32)
theorem own_p64 {x y : Int64} {a b : Int} (hx : x.toInt = a) (hy : y.toInt = b) (h1 : -9223372036854775808 ≤ a + b) (h2 : a + b < 9223372036854775808) : (x + y).toInt = a + b := by
  rw [Int64.toInt_add, hx, hy]; exact Int.bmod_eq_of_le (by omega) (by omega)
theorem own_sar32 {x : Int64} {a : Int} (h : x.toInt = a) : (x >>> ((32 : Int32) &&& 0x3f).toInt64).toInt = a / 2 ^ 32 := by
  rw [nn_sar x 32 32 (by decide) (by decide), h]
theorem own_z64 : (0 : Int64).toInt = 0 := rfl
theorem own_cc {f : Nat → Int64} {bu : Nat} {sx : Int64} (hS : SumOK f bu sx) : (∀ i, i ≤ 33 → CC f bu i = 0) ∧ (CC f bu 34).toInt = (f (bu + 33)).toInt / 2 ^ 32 ∧ (CC f bu 35).toInt = sx.toInt * 2 ^ 18 / 2 ^ 64 ∧ (CC f bu 36).toInt = sx.toInt * 2 ^ 18 / 2 ^ 64 := by
  obtain ⟨h0, hv, hp, hq, hs⟩ := hS
  have a : ∀ i, i ≤ 33 → CC f bu i = 0 := by
    intro i
    induction i with
    | zero => intro _; rfl
    | succ i ih =>
      intro hi
      show (f (bu + i) + CC f bu i) >>> ((32 : Int32) &&& 0x3f).toInt64 = 0
      rw [ih (by omega), h0 i (by omega) (by omega) (by omega)]; decide
  have b : (CC f bu 34).toInt = (f (bu + 33)).toInt / 2 ^ 32 := by
    show ((f (bu + 33) + CC f bu 33) >>> ((32 : Int32) &&& 0x3f).toInt64).toInt = _
    rw [a 33 (by omega)]
    rw [own_sar32 (own_p64 rfl own_z64 (by omega) (by omega))]; congr 1; omega
  have c : (CC f bu 35).toInt = sx.toInt * 2 ^ 18 / 2 ^ 64 := by
    show ((f (bu + 34) + CC f bu 34) >>> ((32 : Int32) &&& 0x3f).toInt64).toInt = _
    rw [own_sar32 (own_p64 rfl b (by omega) (by omega))]; omega
  refine ⟨a, b, c, ?_⟩
  show ((f (bu + 35) + CC f bu 35) >>> ((32 : Int32) &&& 0x3f).toInt64).toInt = _
  rw [h0 35 (by omega) (by omega) (by omega), own_sar32 (own_p64 own_z64 c (by omega) (by omega))]; omega
theorem own_m32 (x : Int64) : (nn (x &&& (4294967295 : Int64)) : Int) = x.toInt % 2 ^ 32 := by
  rw [nn_mask _ _ 32 (by decide)]
  have := nn_ofInt x
  omega
theorem own_dd {f : Nat → Int64} {bu : Nat} {sx : Int64} {g : Nat → Int64} (hS : SumOK f bu sx) (t : Nat) (ht : t < 36) : (t < 33 → DD f bu g 36 t = 0) ∧ (nn (DD f bu g 36 33) : Int) = sx.toInt * 2 ^ 18 % 2 ^ 32 ∧ (nn (DD f bu g 36 34) : Int) = sx.toInt * 2 ^ 18 / 2 ^ 32 % 2 ^ 32 ∧ (nn (DD f bu g 36 35) : Int) = sx.toInt * 2 ^ 18 / 2 ^ 64 % 2 ^ 32 := by
  obtain ⟨a, b, c, -⟩ := own_cc hS
  obtain ⟨h0, hv, hp, hq, hs⟩ := hS
  have u : ∀ t, t < 36 → DD f bu g 36 t = ((f (bu + t) + CC f bu t) &&& (4294967295 : Int64)) := fun t h => by unfold DD; rw [if_pos h]
  refine ⟨fun h => ?_, ?_, ?_, ?_⟩
  · rw [u t ht, a t (by omega), h0 t ht (by omega) (by omega)]; decide
  · rw [u 33 (by decide), own_m32, a 33 (by decide), own_p64 rfl own_z64 (by omega) (by omega)]; omega
  · rw [u 34 (by decide), own_m32, own_p64 rfl b (by omega) (by omega)]; omega
  · rw [u 35 (by decide), own_m32, h0 35 (by omega) (by omega) (by omega), own_p64 own_z64 c (by omega) (by omega)]; omega
theorem own_digOf {d : Nat → Int64} {mm : Nat} (hm : mm ≤ 2 ^ 32) (h : ∀ t, t < 33 → d t = 0) (h3 : nn (d 33) = mm * 2 ^ 18 % 2 ^ 32) (h4 : nn (d 34) = mm * 2 ^ 18 / 2 ^ 32) (h5 : nn (d 35) = 0) (t : Nat) (ht : t < (36 : Int32).toNatClampNeg) : d t = dig mm t := by
  have n : (36 : Int32).toNatClampNeg = 36 := by decide
  rw [n] at ht
  by_cases q : t < 33
  · rw [h t q]; unfold dig; rw [if_neg (by omega), if_neg (by omega)]
  · have : t = 33 ∨ t = 34 ∨ t = 35 := by omega
    rcases this with rfl | rfl | rfl
    · apply nn_inj; rw [h3, nn_d33]
    · apply nn_inj; rw [h4, nn_d34 hm]
    · apply nn_inj; rw [h5]; rfl
theorem own_ps {f : Nat → Int64} {bu : Nat} {sx : Int64} {g : Nat → Int64} (hS : SumOK f bu sx) (c : ¬ CC f bu 36 < (0 : Int64)) : ∃ mm : Nat, mm ≤ 2 ^ 32 ∧ sx = Int64.ofNat mm ∧ ∀ t, t < (36 : Int32).toNatClampNeg → DD f bu g 36 t = dig mm t := by
  have k := (own_cc hS).2.2.2
  rw [Int64.lt_iff_toInt_lt, k, own_z64] at c
  have hs := hS.2.2.2.2
  refine ⟨sx.toInt.toNat, by omega, ?_, fun t ht => ?_⟩
  · apply Int64.toInt_inj.mp; rw [own_oN64 _ (by omega)]; omega
  · have d := fun t h => own_dd (g := g) hS t h
    have d0 := d 0 (by decide)
    refine own_digOf (by omega) (fun t h => (d t (by omega)).1 h) ?_ ?_ ?_ t ht
    · have := d0.2.1; omega
    · have := d0.2.2.1; omega
    · have := d0.2.2.2; omega
theorem nn_neg1 (x : Int64) : nn (x ^^^ (-1 : Int64)) = 2 ^ 64 - 1 - nn x := by
  rw [nn_bv, nn_bv, Int64.toBitVec_xor]
  rw [show (-1 : Int64).toBitVec = BitVec.allOnes 64 from by decide, BitVec.xor_allOnes, BitVec.toNat_not]
theorem own_ng {f : Nat → Int64} {bu : Nat} {sx : Int64} {g : Nat → Int64} (hS : SumOK f bu sx) (c : CC f bu 36 < (0 : Int64)) : ∃ mm : Nat, (1 ≤ mm ∧ mm ≤ 2 ^ 32) ∧ sx.toInt = -(mm : Int) ∧ ∀ t, t < (36 : Int32).toNatClampNeg → BD (DD f bu g 36) 36 t = dig mm t := by
  have k := (own_cc hS).2.2.2
  rw [Int64.lt_iff_toInt_lt, k, own_z64] at c
  have hs := hS.2.2.2.2
  have d := fun t h => own_dd (g := g) hS t h
  have d0 := d 0 (by decide)
  have dz : ∀ t, t < 33 → DD f bu g 36 t = 0 := fun t h => (d t (by omega)).1 h
  obtain ⟨-, e3, e4, e5⟩ := d0
  generalize DD f bu g 36 = D at *
  refine ⟨(-sx.toInt).toNat, by omega, by omega, ?_⟩
  have mk : ∀ x : Int64, nn ((x ^^^ (-1 : Int64)) &&& (4294967295 : Int64)) = 2 ^ 32 - 1 - nn x % 2 ^ 32 := fun x => by
    rw [nn_mask _ _ 32 (by decide), nn_neg1]; have := nn_lt x; omega
  have sh : ∀ x : Int64, nn ((x.toUInt64 >>> ((32 : Int32) &&& 0x3f).toInt64.toUInt64).toInt64) = nn x / 2 ^ 32 := fun x => nn_shr x 32 32 (by decide) (by decide)
  have b : ∀ i, i ≤ 33 → nn (BB D i) = 1 := by
    intro i
    induction i with
    | zero => intro _; rfl
    | succ i ih =>
      intro hi
      show nn ((((D i ^^^ (-1 : Int64)) &&& (4294967295 : Int64)) + BB D i).toUInt64 >>> ((32 : Int32) &&& 0x3f).toInt64.toUInt64).toInt64 = 1
      rw [sh, nn_add, mk, ih (by omega), dz i (by omega)]; decide
  have b34 : nn (BB D 34) = (2 ^ 32 - 1 - nn (D 33) % 2 ^ 32 + 1) / 2 ^ 32 := by
    show nn ((((D 33 ^^^ (-1 : Int64)) &&& (4294967295 : Int64)) + BB D 33).toUInt64 >>> ((32 : Int32) &&& 0x3f).toInt64.toUInt64).toInt64 = _
    rw [sh, nn_add, mk, b 33 (by decide)]; omega
  have b35 : nn (BB D 35) = (2 ^ 32 - 1 - nn (D 34) % 2 ^ 32 + nn (BB D 34)) / 2 ^ 32 := by
    show nn ((((D 34 ^^^ (-1 : Int64)) &&& (4294967295 : Int64)) + BB D 34).toUInt64 >>> ((32 : Int32) &&& 0x3f).toInt64.toUInt64).toInt64 = _
    rw [sh, nn_add, mk, b34]; omega
  have u : ∀ t, t < 36 → nn (BD D 36 t) = (2 ^ 32 - 1 - nn (D t) % 2 ^ 32 + nn (BB D t)) % 2 ^ 64 % 2 ^ 32 := fun t h => by
    show nn (if t < 36 then _ else _) = _
    rw [if_pos h, nn_mask _ _ 32 (by decide), nn_add, mk]
  refine own_digOf (by omega) (fun t h => ?_) ?_ ?_ ?_
  · apply nn_inj; rw [u t (by omega), b t (by omega), dz t h]; decide
  · rw [u 33 (by decide), b 33 (by decide)]; omega
  · rw [u 34 (by decide), b34]; omega
  · rw [u 35 (by decide), b35, b34]; omega
abbrev yA (mg : Int64) (ps : Int32) : Int64 := ((mg <<< ((ps &&& (31 : Int32)) &&& 0x3f).toInt64) &&& (4294967295 : Int64))
abbrev yB (mg : Int64) (ps : Int32) : Int64 := ((mg <<< ((ps &&& (31 : Int32)) &&& 0x3f).toInt64).toUInt64 >>> ((32 : Int32) &&& 0x3f).toInt64.toUInt64).toInt64
abbrev yC (mg : Int64) (ps : Int32) : Int64 := ((mg.toUInt64 >>> ((1 : Int32) &&& 0x3f).toInt64.toUInt64).toInt64.toUInt64 >>> (((63 : Int32) - (ps &&& (31 : Int32))) &&& 0x3f).toInt64.toUInt64).toInt64
def ad3 (f : Nat → Int64) (j : Nat) (ps : Int32) (mg sg : Int64) : Nat → Int64 := fun t => if t = j + 2 then f t + ((yC mg ps ^^^ sg) - sg) else if t = j + 1 then f t + ((yB mg ps ^^^ sg) - sg) else if t = j then f t + ((yA mg ps ^^^ sg) - sg) else f t
theorem own_up3 (f : Nat → Int64) (j : Nat) (a b c : Int64) (t : Nat) : up (up (up f j (f j + a)) (j + 1) (up f j (f j + a) (j + 1) + b)) (j + 2) (up (up f j (f j + a)) (j + 1) (up f j (f j + a) (j + 1) + b) (j + 2) + c) t = if t = j + 2 then f t + c else if t = j + 1 then f t + b else if t = j then f t + a else f t := by
  have e1 : up f j (f j + a) (j + 1) = f (j + 1) := by unfold up; rw [if_neg (by omega)]
  have e2 : ∀ z, up (up f j (f j + a)) (j + 1) z (j + 2) = f (j + 2) := fun z => by unfold up; rw [if_neg (by omega), if_neg (by omega)]
  rw [e1, e2]
  unfold up
  by_cases h2 : t = j + 2
  · rw [if_pos h2, if_pos h2, h2]
  · rw [if_neg h2, if_neg h2]
    by_cases h1 : t = j + 1
    · rw [if_pos h1, if_pos h1, h1]
    · rw [if_neg h1, if_neg h1]
      by_cases h0 : t = j
      · rw [if_pos h0, if_pos h0, h0]
      · rw [if_neg h0, if_neg h0]
theorem own_ad3 (f : Nat → Int64) (j : Nat) (ps : Int32) (mg sg : Int64) (t : Nat) : up (up (up f j (f j + ((yA mg ps ^^^ sg) - sg))) (j + 1) (up f j (f j + ((yA mg ps ^^^ sg) - sg)) (j + 1) + ((yB mg ps ^^^ sg) - sg))) (j + 2) (up (up f j (f j + ((yA mg ps ^^^ sg) - sg))) (j + 1) (up f j (f j + ((yA mg ps ^^^ sg) - sg)) (j + 1) + ((yB mg ps ^^^ sg) - sg)) (j + 2) + ((yC mg ps ^^^ sg) - sg)) t = ad3 f j ps mg sg t := own_up3 f j _ _ _ t
def sgI (v : Int32) (k : Nat) : Int64 := if v.toInt < 0 then -(Int64.ofNat k) else Int64.ofNat k
def lo (v : Int32) : Int64 := sgI v (v.toInt.natAbs * 2 ^ 18 % 2 ^ 32)
def hi (v : Int32) : Int64 := sgI v (v.toInt.natAbs * 2 ^ 18 / 2 ^ 32)
def adF (f : Nat → Int64) (bu : Nat) (v : Int32) : Nat → Int64 := fun t => if t = bu + 33 then f t + lo v else if t = bu + 34 then f t + hi v else f t
def jo (bu : Nat) (v : Int32) : Nat := bu + (if v.toInt.natAbs = 0 then 0 else if v.toInt.natAbs < 4 then 31 else 32)
theorem own_v31 (v : Int32) : v.toInt.natAbs ≤ 2 ^ 31 := by
  have a := v.toInt_lt
  have b := v.le_toInt
  omega
theorem own_bitsN {dv : UInt64} {v : Int32} (hv : dv = FP.l2d (Int32.toInt64 v)) : nn (dv.toInt64) = sg v.toInt * 2 ^ 63 + mb v.toInt.natAbs := by
  show dv.toNat = _
  have := own_v31 v
  rw [hv, own_l2dN _ (by rw [Int32.toInt_toInt64]; omega), Int32.toInt_toInt64]
theorem own_a2047 (x : Int64) : (x.toInt32 &&& (2047 : Int32)).toInt = ((nn x % 2 ^ 11 : Nat) : Int) := by
  have lo : x.toInt32.toUInt32.toNat = nn x % 2 ^ 32 := by
    show (x.toBitVec.signExtend 32).toNat = _
    rw [BitVec.signExtend_eq_setWidth_of_le _ (by decide), BitVec.toNat_setWidth]; rfl
  have e : (x.toInt32 &&& (2047 : Int32)).toUInt32.toNat = x.toInt32.toUInt32.toNat % 2048 := by
    show (x.toInt32.toUInt32 &&& (2047 : UInt32)).toNat = _
    rw [UInt32.toNat_and]; exact Nat.and_two_pow_sub_one_eq_mod _ 11
  have k : (x.toInt32 &&& (2047 : Int32)).toInt = ((x.toInt32 &&& (2047 : Int32)).toUInt32.toNat : Int) := own_J (x.toInt32 &&& (2047 : Int32)).toUInt32 (by omega)
  rw [k, e, lo]; omega
theorem own_sgl (i : Int) : sg i ≤ 1 := by unfold sg; split <;> omega
theorem own_F5 {dv : UInt64} {v : Int32} (hv : dv = FP.l2d (Int32.toInt64 v)) : (F5 (dv.toInt64)).toInt = if v.toInt.natAbs = 0 then 0 else 1023 + (v.toInt.natAbs.log2 : Int) := by
  unfold F5
  have := own_v31 v
  have hs := own_sgl v.toInt
  rw [own_a2047, nn_shr _ _ 52 (by decide) (by decide), own_bitsN hv]
  unfold mb
  by_cases h : v.toInt.natAbs = 0
  · rw [if_pos h, if_pos h]
    have : v.toInt = 0 := by omega
    rw [this]; decide
  · rw [if_neg h, if_neg h]
    obtain ⟨-, c1, c2⟩ := own_mant h (by omega)
    have hL : v.toInt.natAbs.log2 ≤ 31 := by
      have l := Nat.log2_self_le h
      have : 2 ^ v.toInt.natAbs.log2 < 2 ^ 32 := by omega
      have := (Nat.pow_lt_pow_iff_right (by decide : 1 < 2)).mp this
      omega
    generalize v.toInt.natAbs * 2 ^ (52 - v.toInt.natAbs.log2) = A at *
    omega
theorem own_lg {v : Int32} (h : v.toInt.natAbs ≠ 0) : v.toInt.natAbs.log2 ≤ 31 := by
  have := own_v31 v
  have l := Nat.log2_self_le h
  have : 2 ^ v.toInt.natAbs.log2 < 2 ^ 32 := by omega
  have := (Nat.pow_lt_pow_iff_right (by decide : 1 < 2)).mp this
  omega
theorem own_e54 {dv : UInt64} {v : Int32} (hv : dv = FP.l2d (Int32.toInt64 v)) : ¬ (1054 : Int32) < (F5 (dv.toInt64)) := by
  have c : (1054 : Int32).toInt = 1054 := by decide
  rw [Int32.lt_iff_toInt_lt, c, own_F5 hv]
  by_cases h : v.toInt.natAbs = 0
  · rw [if_pos h]; omega
  · rw [if_neg h]; have := own_lg h; omega
theorem own_F6 {dv : UInt64} {v : Int32} (hv : dv = FP.l2d (Int32.toInt64 v)) : (F6 (F5 (dv.toInt64))).toInt = if v.toInt.natAbs = 0 then 0 else 1022 + (v.toInt.natAbs.log2 : Int) := by
  have e := own_F5 hv
  have c : (1 : Int32).toInt = 1 := by decide
  unfold F6 F7 F7_1
  by_cases h : v.toInt.natAbs = 0
  · rw [if_pos h] at e ⊢
    rw [if_pos (by rw [Int32.lt_iff_toInt_lt, e, c]; omega)]; decide
  · rw [if_neg h] at e ⊢
    have := own_lg h
    rw [if_neg (by rw [Int32.lt_iff_toInt_lt, e, c]; omega), own_s32 e c (by omega) (by omega)]; omega
theorem own_i5F {dv : UInt64} {v : Int32} (hv : dv = FP.l2d (Int32.toInt64 v)) : (((F6 (F5 (dv.toInt64))).toUInt32 >>> ((5 : Int32) &&& 31).toUInt32).toInt32).toInt = ((if v.toInt.natAbs = 0 then 0 else if v.toInt.natAbs < 4 then 31 else 32 : Nat) : Int) := by
  have e := own_F6 hv
  by_cases h : v.toInt.natAbs = 0
  · rw [if_pos h] at e ⊢
    rw [own_i5 (by omega), e]; decide
  · rw [if_neg h] at e ⊢
    have hL := own_lg h
    have l1 := Nat.log2_self_le h
    have l2 : v.toInt.natAbs < 2 ^ (v.toInt.natAbs.log2 + 1) := Nat.lt_log2_self
    rw [own_i5 (by omega), e]
    by_cases q : v.toInt.natAbs < 4
    · rw [if_pos q]
      have : 2 ^ v.toInt.natAbs.log2 < 2 ^ 2 := by omega
      have := (Nat.pow_lt_pow_iff_right (by decide : 1 < 2)).mp this
      omega
    · rw [if_neg q]
      have : 2 ^ 2 < 2 ^ (v.toInt.natAbs.log2 + 1) := by omega
      have := (Nat.pow_lt_pow_iff_right (by decide : 1 < 2)).mp this
      omega
theorem own_jI {su : Int32} {bu : Nat} {dv : UInt64} {v : Int32} (hb : Bas su bu) (hv : dv = FP.l2d (Int32.toInt64 v)) : ((su * (36 : Int32)) + ((F6 (F5 (dv.toInt64))).toUInt32 >>> ((5 : Int32) &&& 31).toUInt32).toInt32).toInt = (jo bu v : Int) ∧ jo bu v ≤ 68 := by
  have e := own_i5F hv
  unfold jo
  generalize hk : (if v.toInt.natAbs = 0 then 0 else if v.toInt.natAbs < 4 then 31 else 32 : Nat) = k at *
  have hk' : k ≤ 32 := by rw [← hk]; (repeat' split) <;> omega
  rcases hb with ⟨rfl, rfl⟩ | ⟨rfl, rfl⟩
  · refine ⟨?_, by omega⟩
    rw [own_p32 (a := 0) (by decide) e (by omega) (by omega)]; omega
  · refine ⟨?_, by omega⟩
    rw [own_p32 (a := 36) (by decide) e (by omega) (by omega)]; omega
theorem own_ixI {x : Int32} {j : Nat} (e : x.toInt = (j : Int)) (h : j < 72) : Ix 72 x j := by
  have n : (72 : Int32).toNatClampNeg = 72 := by decide
  have z : (0 : Int32).toInt = 0 := rfl
  refine ⟨by rw [Int32.lt_iff_toInt_lt, e, z]; omega, ?_, by rw [n]; omega⟩
  unfold Int32.toNatClampNeg; rw [e]; omega
theorem own_j0 {su : Int32} {bu : Nat} {dv : UInt64} {v : Int32} (hb : Bas su bu) (hv : dv = FP.l2d (Int32.toInt64 v)) : Ix 72 ((su * (36 : Int32)) + ((F6 (F5 (dv.toInt64))).toUInt32 >>> ((5 : Int32) &&& 31).toUInt32).toInt32) (jo bu v) := by
  obtain ⟨e, l⟩ := own_jI hb hv
  exact own_ixI e (by omega)
theorem own_j1 {su : Int32} {bu : Nat} {dv : UInt64} {v : Int32} (hb : Bas su bu) (hv : dv = FP.l2d (Int32.toInt64 v)) : Ix 72 (((su * (36 : Int32)) + ((F6 (F5 (dv.toInt64))).toUInt32 >>> ((5 : Int32) &&& 31).toUInt32).toInt32) + 1) (jo bu v + 1) := by
  obtain ⟨e, l⟩ := own_jI hb hv
  exact own_ixI (by rw [own_p32 (b := 1) e (by decide) (by omega) (by omega)]; omega) (by omega)
theorem own_j2 {su : Int32} {bu : Nat} {dv : UInt64} {v : Int32} (hb : Bas su bu) (hv : dv = FP.l2d (Int32.toInt64 v)) : Ix 72 (((su * (36 : Int32)) + ((F6 (F5 (dv.toInt64))).toUInt32 >>> ((5 : Int32) &&& 31).toUInt32).toInt32) + 2) (jo bu v + 2) := by
  obtain ⟨e, l⟩ := own_jI hb hv
  exact own_ixI (by rw [own_p32 (b := 2) e (by decide) (by omega) (by omega)]; omega) (by omega)
theorem own_sgn {dv : UInt64} {v : Int32} (hv : dv = FP.l2d (Int32.toInt64 v)) : ((dv.toInt64) >>> ((63 : Int32) &&& 0x3f).toInt64) = if v.toInt < 0 then (-1 : Int64) else 0 := by
  have b := own_bitsN hv
  have l := own_mblt (m := v.toInt.natAbs) (by have := own_v31 v; omega)
  apply Int64.toInt_inj.mp
  rw [nn_sar _ _ 63 (by decide) (by decide), nn_int, b]
  unfold sg
  by_cases h : v.toInt < 0
  · rw [if_pos h, if_pos h, if_neg (by omega), show (-1 : Int64).toInt = -1 by decide]; omega
  · rw [if_neg h, if_neg h, if_pos (by omega), own_z64]; omega
theorem own_x {v : Int32} (y : Int64) {s : Int64} (hs : s = if v.toInt < 0 then (-1 : Int64) else 0) : (y ^^^ s) - s = sgI v (nn y) := by
  have on : Int64.ofNat (nn y) = y := nn_inj (nn_oN _ (nn_lt y))
  unfold sgI
  rw [hs, on]
  by_cases h : v.toInt < 0
  · rw [if_pos h, if_pos h]
    apply nn_inj
    have n1 : nn (-1 : Int64) = 2 ^ 64 - 1 := by decide
    have e : (-y) = 0 - y := by simp
    rw [e, nn_sub, nn_sub, nn_neg1, n1]
    have := nn_lt y
    have z : nn 0 = 0 := rfl
    rw [z]; omega
  · rw [if_neg h, if_neg h]; simp
theorem own_sg0 (v : Int32) : sgI v 0 = 0 := by unfold sgI; split <;> rfl
theorem own_F8 {dv : UInt64} {v : Int32} (hv : dv = FP.l2d (Int32.toInt64 v)) (h : v.toInt.natAbs ≠ 0) : nn (F8 (dv.toInt64) (F5 (dv.toInt64))) = v.toInt.natAbs * 2 ^ (52 - v.toInt.natAbs.log2) := by
  have e := own_F5 hv
  rw [if_neg h] at e
  have hL := own_lg h
  have hs := own_sgl v.toInt
  obtain ⟨-, c1, c2⟩ := own_mant h (by have := own_v31 v; omega)
  unfold F8
  have g : (-(Int32.toInt64 (F5 (dv.toInt64)))).toInt = -(1023 + (v.toInt.natAbs.log2 : Int)) := by
    have : (-(Int32.toInt64 (F5 (dv.toInt64)))) = 0 - (Int32.toInt64 (F5 (dv.toInt64))) := by simp
    rw [this, Int64.toInt_sub, Int32.toInt_toInt64, e, own_z64]
    rw [Int.bmod_eq_of_le (by omega) (by omega)]; omega
  have m1 : (-(Int32.toInt64 (F5 (dv.toInt64)))) >>> ((63 : Int32) &&& 0x3f).toInt64 = -1 := by
    apply Int64.toInt_inj.mp
    rw [nn_sar _ _ 63 (by decide) (by decide), g, show (-1 : Int64).toInt = -1 by decide]; omega
  rw [m1, nn_or, nn_mask _ _ 52 (by decide), show nn ((-1 : Int64) &&& (4503599627370496 : Int64)) = 2 ^ 52 by decide, own_bitsN hv]
  unfold mb; rw [if_neg h]
  generalize v.toInt.natAbs * 2 ^ (52 - v.toInt.natAbs.log2) = A at *
  have o := Nat.two_pow_add_eq_or_of_lt (i := 52) (b := A - 2 ^ 52) (by omega) 1
  rw [show (sg v.toInt * 2 ^ 63 + ((1022 + v.toInt.natAbs.log2) * 2 ^ 52 + A)) % 2 ^ 52 = A - 2 ^ 52 by omega, Nat.or_comm]
  rw [Nat.mul_one] at o
  rw [← o]; omega
theorem own_yv {dv : UInt64} {v : Int32} (hv : dv = FP.l2d (Int32.toInt64 v)) (h : v.toInt.natAbs ≠ 0) : let mg := F8 (dv.toInt64) (F5 (dv.toInt64)); let ps := F6 (F5 (dv.toInt64)); let k := v.toInt.natAbs
    nn (yA mg ps) = 0 ∧ (k < 4 → nn (yB mg ps) = 0 ∧ nn (yC mg ps) = k * 2 ^ 18) ∧ (¬ k < 4 → nn (yB mg ps) = k * 2 ^ 18 % 2 ^ 32 ∧ nn (yC mg ps) = k * 2 ^ 18 / 2 ^ 32) := by
  intro mg ps k
  have hL := own_lg h
  have f8 : nn mg = k * 2 ^ (52 - k.log2) := own_F8 hv h
  have f6 : ps.toInt = 1022 + (k.log2 : Int) := by have := own_F6 hv; rw [if_neg h] at this; exact this
  have a := own_a31 (x := ps) (by omega)
  have l1 : 2 ^ k.log2 ≤ k := Nat.log2_self_le h
  have l2 : k < 2 ^ (k.log2 + 1) := Nat.lt_log2_self
  have hk : k ≤ 2 ^ 31 := own_v31 v
  have hk0 : k ≠ 0 := h
  have hL' : k.log2 ≤ 31 := hL
  clear_value mg ps k
  rw [f6] at a
  have s63 := own_s32 (x := (63 : Int32)) (a := 63) (by decide) a (by omega) (by omega)
  by_cases q : k < 4
  · have hl : k.log2 = 0 ∨ k.log2 = 1 := by
      have : 2 ^ k.log2 < 2 ^ 2 := by omega
      have := (Nat.pow_lt_pow_iff_right (by decide : 1 < 2)).mp this
      omega
    have sh := nn_shl mg (ps &&& (31 : Int32)) (30 + k.log2) (by rw [a]; omega) (by omega)
    have z : nn (mg <<< ((ps &&& (31 : Int32)) &&& 0x3f).toInt64) = 0 := by
      rw [sh, f8]; rcases hl with hl | hl <;> rw [hl] <;> omega
    refine ⟨?_, fun _ => ⟨?_, ?_⟩, fun n => absurd q n⟩
    · rw [nn_mask _ _ 32 (by decide), z]
    · rw [nn_shr _ _ 32 (by decide) (by decide), z]
    · rw [nn_shr _ _ (33 - k.log2) (by rw [s63]; omega) (by omega), nn_shr _ _ 1 (by decide) (by decide), f8]
      rcases hl with hl | hl <;> rw [hl] <;> omega
  · have hl : 2 ≤ k.log2 := by
      have : 2 ^ 2 < 2 ^ (k.log2 + 1) := by omega
      have := (Nat.pow_lt_pow_iff_right (by decide : 1 < 2)).mp this
      omega
    have sh := nn_shl mg (ps &&& (31 : Int32)) (k.log2 - 2) (by rw [a]; omega) (by omega)
    have z : nn (mg <<< ((ps &&& (31 : Int32)) &&& 0x3f).toInt64) = k * 2 ^ 50 % 2 ^ 64 := by
      rw [sh, f8, Nat.mul_assoc, ← Nat.pow_add, show 52 - k.log2 + (k.log2 - 2) = 50 by omega]
    refine ⟨?_, fun n => absurd n q, fun _ => ⟨?_, ?_⟩⟩
    · rw [nn_mask _ _ 32 (by decide), z]; omega
    · rw [nn_shr _ _ 32 (by decide) (by decide), z]; omega
    · rw [nn_shr _ _ (65 - k.log2) (by rw [s63]; omega) (by omega), nn_shr _ _ 1 (by decide) (by decide), f8, Nat.div_div_eq_div_mul, Nat.mul_comm (2 ^ 1), ← Nat.pow_succ]
      rw [show (65 - k.log2).succ = (52 - k.log2) + 14 by omega, Nat.pow_add, Nat.mul_comm k, Nat.mul_div_mul_left _ _ (Nat.two_pow_pos _)]; omega
theorem own_adF {f : Nat → Int64} {bu : Nat} {dv : UInt64} {v : Int32} (hv : dv = FP.l2d (Int32.toInt64 v)) (t : Nat) : ad3 f (jo bu v) (F6 (F5 (dv.toInt64))) (F8 (dv.toInt64) (F5 (dv.toInt64))) ((dv.toInt64) >>> ((63 : Int32) &&& 0x3f).toInt64) t = adF f bu v t := by
  have hs := own_sgn hv
  unfold ad3 adF
  rw [own_x _ hs, own_x _ hs, own_x _ hs]
  unfold lo hi
  by_cases h : v.toInt.natAbs = 0
  · have b := own_bitsN hv
    have v0 : v.toInt = 0 := by omega
    rw [v0] at b
    have bz : dv.toInt64 = 0 := nn_inj (by rw [b]; decide)
    rw [bz, h]
    have e1 : nn (yA (F8 0 (F5 0)) (F6 (F5 0))) = 0 := by decide
    have e2 : nn (yB (F8 0 (F5 0)) (F6 (F5 0))) = 0 := by decide
    have e3 : nn (yC (F8 0 (F5 0)) (F6 (F5 0))) = 0 := by decide
    rw [e1, e2, e3, show 0 * 2 ^ 18 % 2 ^ 32 = 0 by decide, show 0 * 2 ^ 18 / 2 ^ 32 = 0 by decide, own_sg0]
    simp
  · obtain ⟨y1, y2, y3⟩ := own_yv hv h
    rw [y1, own_sg0]
    unfold jo; rw [if_neg h]
    by_cases q : v.toInt.natAbs < 4
    · obtain ⟨z1, z2⟩ := y2 q
      rw [if_pos q, z1, z2, own_sg0, show v.toInt.natAbs * 2 ^ 18 % 2 ^ 32 = v.toInt.natAbs * 2 ^ 18 by omega, show v.toInt.natAbs * 2 ^ 18 / 2 ^ 32 = 0 by omega, own_sg0]
      simp
    · obtain ⟨z1, z2⟩ := y3 q
      rw [if_neg q, z1, z2]
      by_cases t2 : t = bu + 34
      · rw [if_pos (by omega), if_neg (by omega), if_pos t2]
      · rw [if_neg (by omega), if_neg t2]
        by_cases t1 : t = bu + 33
        · rw [if_pos (by omega), if_pos t1]
        · rw [if_neg (by omega), if_neg t1]; simp
theorem own_sgT (v : Int32) (k : Nat) (h : k < 2 ^ 32) : (sgI v k).toInt = if v.toInt < 0 then -(k : Int) else k := by
  unfold sgI
  have o := own_oN64 k (by omega)
  split
  · have : -(Int64.ofNat k) = 0 - Int64.ofNat k := by simp
    rw [this, Int64.toInt_sub, o, own_z64, Int.bmod_eq_of_le (by omega) (by omega)]; omega
  · exact o
theorem own_loT (v : Int32) : (lo v).toInt + (hi v).toInt * 2 ^ 32 = v.toInt * 2 ^ 18 ∧ (-2 ^ 32 < (lo v).toInt ∧ (lo v).toInt < 2 ^ 32) ∧ (-2 ^ 18 < (hi v).toInt ∧ (hi v).toInt < 2 ^ 18) := by
  have := own_v31 v
  unfold lo hi
  rw [own_sgT _ _ (by omega), own_sgT _ _ (by omega)]
  by_cases h : v.toInt < 0
  · simp only [if_pos h]; omega
  · simp only [if_neg h]; omega
theorem own_G0 (u v : Int32) (t : Nat) (h : t < 36) : adF (adF (fun _ => 0) 0 u) 36 v (0 + t) = if t = 33 then lo u else if t = 34 then hi u else 0 := by
  unfold adF
  rw [if_neg (by omega), if_neg (by omega)]
  simp
theorem own_G36 (u v : Int32) (t : Nat) (h : t < 36) : adF (adF (fun _ => 0) 0 u) 36 v (36 + t) = if t = 33 then lo v else if t = 34 then hi v else 0 := by
  unfold adF
  rw [if_neg (by omega : ¬ 36 + t = 0 + 33), if_neg (by omega : ¬ 36 + t = 0 + 34)]
  by_cases q : t = 33
  · rw [if_pos (by omega), if_pos q]; simp
  · rw [if_neg (by omega), if_neg q]
    by_cases r : t = 34
    · rw [if_pos (by omega), if_pos r]; simp
    · rw [if_neg (by omega), if_neg r]
theorem own_one {f : Nat → Int64} {bu : Nat} {u : Int32} (h : ∀ t, t < 36 → f (bu + t) = if t = 33 then lo u else if t = 34 then hi u else 0) : SumOK f bu (Int32.toInt64 u) := by
  have k := own_loT u
  have v := own_v31 u
  have h3 := h 33 (by decide)
  have h4 := h 34 (by decide)
  rw [if_pos rfl] at h3
  rw [if_neg (by decide), if_pos rfl] at h4
  refine ⟨fun t ht a b => by rw [h t ht, if_neg a, if_neg b], ?_⟩
  rw [h3, h4, Int32.toInt_toInt64]
  omega
theorem own_two {f g : Nat → Int64} {bu : Nat} {u v : Int32} (hf : ∀ t, t < 36 → f (bu + t) = if t = 33 then lo u else if t = 34 then hi u else 0) (hg : ∀ t, t < 36 → g (bu + t) = if t = 33 then lo v else if t = 34 then hi v else 0) : SumOK (sumF f g) bu ((Int32.toInt64 u) + (Int32.toInt64 v)) := by
  have k := own_loT u
  have k' := own_loT v
  have a := own_v31 u
  have a' := own_v31 v
  have f3 := hf 33 (by decide)
  have f4 := hf 34 (by decide)
  have g3 := hg 33 (by decide)
  have g4 := hg 34 (by decide)
  rw [if_pos rfl] at f3 g3
  rw [if_neg (by decide), if_pos rfl] at f4 g4
  unfold sumF
  refine ⟨fun t ht a b => ?_, ?_⟩
  · show f (bu + t) + g (bu + t) = 0
    rw [hf t ht, hg t ht, if_neg a, if_neg b, if_neg a, if_neg b]; rfl
  show (f (bu + 33) + g (bu + 33)).toInt + (f (bu + 34) + g (bu + 34)).toInt * 2 ^ 32 = _ ∧ (_ < (f (bu + 33) + g (bu + 33)).toInt ∧ (f (bu + 33) + g (bu + 33)).toInt < _) ∧ (_ < (f (bu + 34) + g (bu + 34)).toInt ∧ (f (bu + 34) + g (bu + 34)).toInt < _) ∧ _
  rw [f3, f4, g3, g4, own_p64 (x := lo u) (y := lo v) rfl rfl (by omega) (by omega), own_p64 (x := hi u) (y := hi v) rfl rfl (by omega) (by omega), own_p64 (Int32.toInt_toInt64 u) (Int32.toInt_toInt64 v) (by omega) (by omega)]
  omega
theorem own_s1 (q1 q2 q3 q4 : Int32) : SumOK (sumF (adF (adF (fun _ => 0) 0 q1) 36 q2) (adF (adF (fun _ => 0) 0 q3) 36 q4)) 0 ((Int32.toInt64 q1) + (Int32.toInt64 q3)) := own_two (own_G0 q1 q2) (own_G0 q3 q4)
theorem own_s2 (q1 q2 q3 q4 : Int32) : SumOK (sumF (adF (adF (fun _ => 0) 0 q1) 36 q2) (adF (adF (fun _ => 0) 0 q3) 36 q4)) 36 ((Int32.toInt64 q2) + (Int32.toInt64 q4)) := own_two (own_G36 q1 q2) (own_G36 q3 q4)
theorem own_s3 (q3 q4 : Int32) : SumOK (adF (adF (fun _ => 0) 0 q3) 36 q4) 0 (Int32.toInt64 q3) := own_one (own_G0 q3 q4)
theorem own_s4 (q3 q4 : Int32) : SumOK (adF (adF (fun _ => 0) 0 q3) 36 q4) 36 (Int32.toInt64 q4) := own_one (own_G36 q3 q4)
theorem own_lc (x : Int64) : lcmpW x x = 0 := by simp [lcmpW]
theorem own_dcx {n : Int64} {o : CmpOp} (h : B53 n) : cmpValue (FP.dcmp (FP.l2d n) (FP.l2d n)) o = 0 := by rw [dcmpV_w h h]; exact own_lc _
theorem own_b54 (a b : Int32) : B53 (Int32.toInt64 a + Int32.toInt64 b) := by
  have ha := rng32 a
  have hb := rng32 b
  unfold B53
  rw [own_p64 (Int32.toInt_toInt64 a) (Int32.toInt_toInt64 b) (by omega) (by omega)]; omega
def Q17 (Z : State) (dg : Addr) (x : Int32) (kdg : ClassId) (mm : Nat) (h0 : Heap) (n0 : Nat) (v : Option Value) (h : Heap) (L : List Loc) : Prop := v = some (.int 0) ∧ Fr n0 L ∧ (h = h0)
theorem rm17 (l : Launch) (Z : State) (a0 : Array Value) (hw : HW a0 Z) (dg : Addr) (x : Int32) (kdg : ClassId) (mm : Nat) (h0 : Heap) (n0 : Nat) (P0 : Lon Z h0 dg kdg (36 : Int32) (dig mm)) (hB : Bt mm x) :
  MM l Z Y17 prog_7_method_17_code 2 (some .boolean) 0 0 0 0 #[(.ref dg), (.int x)] h0 (Q17 Z dg x kdg mm h0 n0) := by
 refine own_start (fun m => (mkF m 0 #[.val (.ref dg), .val (.int x)] [])) (plainFor_of_name pn_com_example_nearterm_nearterm_embedding_ExactSums) (by simp [entryFrame, mkF, argsToLocals, Value.category]) n0 ?_
 intro p e s m below meth c s₁ Bd hx B hml hZ hown hnm X0 e0 N0
 refine GoW.sg (mkF m 4 #[.val (.ref dg), .val (.int x)] [(.int (x.toUInt32 >>> ((5 : Int32) &&& 31).toUInt32).toInt32), (.ref dg)]) (fun t k => XS.aloadN X0.here hx rfl (B d17_0) rfl rfl (XS.iloadN X0.here hx rfl (B d17_1) rfl (XS.iconst X0.here hx rfl (B d17_2) (XS.iushr X0.here hx rfl (B d17_3) rfl k)))) ?_
 refine GoW.sg (mkF m 5 #[.val (.ref dg), .val (.int x)] [(.long (dig mm (jb mm)))]) (fun t k => own_ldL X0 hx hZ e0 P0 (i := jb mm) (own_btI hB) (g := (mkF m 4 #[.val (.ref dg), .val (.int x)] [(.int (x.toUInt32 >>> ((5 : Int32) &&& 31).toUInt32).toInt32), (.ref dg)])) rfl rfl (B d17_4) t k) ?_
 rw [show (dig mm (jb mm)) = (0 : Int64) from own_btZ hB]
 show GoW p e below s (Q17 Z dg x kdg mm h0 n0) 0 0 (s₁.setTop (mkF m 5 #[.val (.ref dg), .val (.int x)] [(.long 0)]))
 refine GoW.sg (mkF m 10 #[.val (.ref dg), .val (.int x)] [(.long ((0 : Int64).toUInt64 >>> ((x &&& (31 : Int32)) &&& 0x3f).toInt64.toUInt64).toInt64)]) (fun t k => XS.iloadN X0.here hx rfl (B d17_5) rfl (XS.bipush X0.here hx rfl (B d17_6) (XS.iand X0.here hx rfl (B d17_8) rfl (XS.lushr X0.here hx rfl (B d17_9) rfl k)))) ?_
 rw [show ((0 : Int64).toUInt64 >>> ((x &&& (31 : Int32)) &&& 0x3f).toInt64.toUInt64).toInt64 = (0 : Int64) from own_shz _]
 show GoW p e below s (Q17 Z dg x kdg mm h0 n0) 0 0 (s₁.setTop (mkF m 10 #[.val (.ref dg), .val (.int x)] [(.long 0)]))
 refine GoW.sg (mkF m 11 #[.val (.ref dg), .val (.int x)] [(.long 1), (.long 0)]) (fun t k => XS.lconst X0.here hx rfl (B d17_10) k) ?_
 refine GoW.st (fun t k => XS.land X0.here hx rfl (B d17_11) rfl k) ?_
 rw [show ((0 : Int64) &&& (1 : Int64)) = (0 : Int64) from by decide]
 show GoW p e below s (Q17 Z dg x kdg mm h0 n0) 0 0 (s₁.setTop (mkF m 12 #[.val (.ref dg), .val (.int x)] [(.long 0)]))
 refine GoW.sg (mkF m 22 #[.val (.ref dg), .val (.int x)] [(.int 0)]) (fun t k => XS.lconst X0.here hx rfl (B d17_12) (XS.lcmp X0.here hx rfl (B d17_13) rfl (XS.ifYes X0.here hx rfl (pc0 := 14) (pc' := 21) rfl (B d17_14) rfl (by decide) (by decide) (by decide) (XS.iconst X0.here hx rfl (B d17_21) k)))) ?_
 refine GoW.retN X0 hx (t := .boolean) Bd.returns (by simp) (B d17_22) Bd.notSynchronized ?_ (by decide) (by decide)
 rw [e0]
 exact ⟨rfl, N0, rfl⟩
def Q16 (Z : State) (dg : Addr) (x : Int32) (kdg : ClassId) (mm : Nat) (h0 : Heap) (n0 : Nat) (v : Option Value) (h : Heap) (L : List Loc) : Prop := v = some (.long (mant mm)) ∧ Fr n0 L ∧ (h = h0)
theorem rm16 (l : Launch) (Z : State) (a0 : Array Value) (hw : HW a0 Z) (dg : Addr) (x : Int32) (kdg : ClassId) (mm : Nat) (h0 : Heap) (n0 : Nat) (P0 : Lon Z h0 dg kdg (36 : Int32) (dig mm)) (hB : Bf mm x) :
  MM l Z Y16 prog_7_method_16_code 7 (some .long) 0 0 0 0 #[(.ref dg), (.int x)] h0 (Q16 Z dg x kdg mm h0 n0) := by
 refine own_start (fun m => (mkF m 0 (Sh2 dg x) [])) (plainFor_of_name pn_com_example_nearterm_nearterm_embedding_ExactSums) (by simp [entryFrame, mkF, argsToLocals, Value.category]) n0 ?_
 intro p e s m below meth c s₁ Bd hx B hml hZ hown hnm X0 e0 N0
 refine GoW.sg (mkF m 4 (Sh3 dg x ((x.toUInt32 >>> ((5 : Int32) &&& 31).toUInt32).toInt32)) []) (fun t k => XS.iloadN X0.here hx rfl (B d16_0) rfl (XS.iconst X0.here hx rfl (B d16_1) (XS.iushr X0.here hx rfl (B d16_2) rfl (XS.istoreN X0.here hx rfl (B d16_3) rfl (l' := (Sh3 dg x ((x.toUInt32 >>> ((5 : Int32) &&& 31).toUInt32).toInt32))) rfl k)))) ?_
 rcases own_bf hB with hA | hA | hA
 ·obtain ⟨vv, y1, y2, y3⟩ := hA
  rw [vv]
  show GoW p e below s (Q16 Z dg x kdg mm h0 n0) 0 0 (s₁.setTop (mkF m 4 (Sh3 dg x 31) []))
  refine GoW.sg (mkF m 6 (Sh3 dg x 31) [(.int 31), (.ref dg)]) (fun t k => XS.aloadN X0.here hx rfl (B d16_4) rfl rfl (XS.iloadN X0.here hx rfl (B d16_5) rfl k)) ?_
  refine GoW.sg (mkF m 7 (Sh3 dg x 31) [(.long (dig mm 31))]) (fun t k => own_ldL X0 hx hZ e0 P0 (i := 31) ⟨by decide, rfl, by decide⟩ (g := (mkF m 6 (Sh3 dg x 31) [(.int 31), (.ref dg)])) rfl rfl (B d16_6) t k) ?_
  rw [show (dig mm 31) = (0 : Int64) from rfl]
  show GoW p e below s (Q16 Z dg x kdg mm h0 n0) 0 0 (s₁.setTop (mkF m 7 (Sh3 dg x 31) [(.long 0)]))
  refine GoW.sg (mkF m 18 (Sh4 dg x 31 (((0 : Int64).toUInt64 >>> ((x &&& (31 : Int32)) &&& 0x3f).toInt64.toUInt64).toInt64)) [(.int 31), (.int x), (.int 32)]) (fun t k => XS.iloadN X0.here hx rfl (B d16_7) rfl (XS.bipush X0.here hx rfl (B d16_8) (XS.iand X0.here hx rfl (B d16_10) rfl (XS.lushr X0.here hx rfl (B d16_11) rfl (XS.lstoreN X0.here hx rfl (B d16_12) rfl (l' := (Sh4 dg x 31 (((0 : Int64).toUInt64 >>> ((x &&& (31 : Int32)) &&& 0x3f).toInt64.toUInt64).toInt64))) rfl (XS.bipush X0.here hx rfl (B d16_13) (XS.iloadN X0.here hx rfl (B d16_15) rfl (XS.bipush X0.here hx rfl (B d16_16) k)))))))) ?_
  refine GoW.sg (mkF m 24 (Sh5 dg x 31 (((0 : Int64).toUInt64 >>> ((x &&& (31 : Int32)) &&& 0x3f).toInt64.toUInt64).toInt64) ((32 : Int32) - (x &&& (31 : Int32)))) [(.int 1), (.int 31)]) (fun t k => XS.iand X0.here hx rfl (B d16_18) rfl (XS.isub X0.here hx rfl (B d16_19) rfl (XS.istore X0.here hx rfl (B d16_20) rfl (l' := (Sh5 dg x 31 (((0 : Int64).toUInt64 >>> ((x &&& (31 : Int32)) &&& 0x3f).toInt64.toUInt64).toInt64) ((32 : Int32) - (x &&& (31 : Int32))))) rfl (XS.iloadN X0.here hx rfl (B d16_22) rfl (XS.iconst X0.here hx rfl (B d16_23) k))))) ?_
  refine GoW.st (fun t k => XS.iadd X0.here hx rfl (B d16_24) rfl k) ?_
  rw [show ((31 : Int32) + (1 : Int32)) = (32 : Int32) from by decide]
  show GoW p e below s (Q16 Z dg x kdg mm h0 n0) 0 0 (s₁.setTop (mkF m 25 (Sh5 dg x 31 (((0 : Int64).toUInt64 >>> ((x &&& (31 : Int32)) &&& 0x3f).toInt64.toUInt64).toInt64) ((32 : Int32) - (x &&& (31 : Int32)))) [(.int 32)]))
  refine GoW.sg (mkF m 42 (Sh6 dg x 31 (((0 : Int64).toUInt64 >>> ((x &&& (31 : Int32)) &&& 0x3f).toInt64.toUInt64).toInt64) ((32 : Int32) - (x &&& (31 : Int32))) 32) [(.long ((0 : Int64).toUInt64 >>> ((x &&& (31 : Int32)) &&& 0x3f).toInt64.toUInt64).toInt64)]) (fun t k => XS.istore X0.here hx rfl (B d16_25) rfl (l' := (Sh6 dg x 31 (((0 : Int64).toUInt64 >>> ((x &&& (31 : Int32)) &&& 0x3f).toInt64.toUInt64).toInt64) ((32 : Int32) - (x &&& (31 : Int32))) 32)) rfl (XS.iload X0.here hx rfl (B d16_27) rfl (XS.bipush X0.here hx rfl (B d16_29) (XS.icmpNo X0.here hx rfl (B d16_31) rfl (flt y1).2.2.1 (XS.iload X0.here hx rfl (B d16_34) rfl (XS.bipush X0.here hx rfl (B d16_36) (XS.icmpNo X0.here hx rfl (B d16_38) rfl (by decide) (XS.lloadN X0.here hx rfl (B d16_41) rfl k)))))))) ?_
  refine GoW.sg (mkF m 45 (Sh6 dg x 31 (((0 : Int64).toUInt64 >>> ((x &&& (31 : Int32)) &&& 0x3f).toInt64.toUInt64).toInt64) ((32 : Int32) - (x &&& (31 : Int32))) 32) [(.int 32), (.ref dg), (.long ((0 : Int64).toUInt64 >>> ((x &&& (31 : Int32)) &&& 0x3f).toInt64.toUInt64).toInt64)]) (fun t k => XS.aloadN X0.here hx rfl (B d16_42) rfl rfl (XS.iload X0.here hx rfl (B d16_43) rfl k)) ?_
  refine GoW.sg (mkF m 46 (Sh6 dg x 31 (((0 : Int64).toUInt64 >>> ((x &&& (31 : Int32)) &&& 0x3f).toInt64.toUInt64).toInt64) ((32 : Int32) - (x &&& (31 : Int32))) 32) [(.long (dig mm 32)), (.long ((0 : Int64).toUInt64 >>> ((x &&& (31 : Int32)) &&& 0x3f).toInt64.toUInt64).toInt64)]) (fun t k => own_ldL X0 hx hZ e0 P0 (i := 32) ⟨by decide, rfl, by decide⟩ (g := (mkF m 45 (Sh6 dg x 31 (((0 : Int64).toUInt64 >>> ((x &&& (31 : Int32)) &&& 0x3f).toInt64.toUInt64).toInt64) ((32 : Int32) - (x &&& (31 : Int32))) 32) [(.int 32), (.ref dg), (.long ((0 : Int64).toUInt64 >>> ((x &&& (31 : Int32)) &&& 0x3f).toInt64.toUInt64).toInt64)])) rfl rfl (B d16_45) t k) ?_
  rw [show (dig mm 32) = (0 : Int64) from rfl]
  show GoW p e below s (Q16 Z dg x kdg mm h0 n0) 0 0 (s₁.setTop (mkF m 46 (Sh6 dg x 31 (((0 : Int64).toUInt64 >>> ((x &&& (31 : Int32)) &&& 0x3f).toInt64.toUInt64).toInt64) ((32 : Int32) - (x &&& (31 : Int32))) 32) [(.long 0), (.long ((0 : Int64).toUInt64 >>> ((x &&& (31 : Int32)) &&& 0x3f).toInt64.toUInt64).toInt64)]))
  refine GoW.sg (mkF m 29 (Sh6 dg x 31 (((0 : Int64).toUInt64 >>> ((x &&& (31 : Int32)) &&& 0x3f).toInt64.toUInt64).toInt64 ||| ((0 : Int64) <<< (((32 : Int32) - (x &&& (31 : Int32))) &&& 0x3f).toInt64)) (((32 : Int32) - (x &&& (31 : Int32))) + (32 : Int32)) 33) [(.int (((32 : Int32) - (x &&& (31 : Int32))) + (32 : Int32)))]) (fun t k => XS.iload X0.here hx rfl (B d16_46) rfl (XS.lshl X0.here hx rfl (B d16_48) rfl (XS.lor X0.here hx rfl (B d16_49) rfl (XS.lstoreN X0.here hx rfl (B d16_50) rfl (l' := (Sh6 dg x 31 (((0 : Int64).toUInt64 >>> ((x &&& (31 : Int32)) &&& 0x3f).toInt64.toUInt64).toInt64 ||| ((0 : Int64) <<< (((32 : Int32) - (x &&& (31 : Int32))) &&& 0x3f).toInt64)) ((32 : Int32) - (x &&& (31 : Int32))) 32)) rfl (XS.iinc X0.here hx rfl (B d16_51) rfl (l' := (Sh6 dg x 31 (((0 : Int64).toUInt64 >>> ((x &&& (31 : Int32)) &&& 0x3f).toInt64.toUInt64).toInt64 ||| ((0 : Int64) <<< (((32 : Int32) - (x &&& (31 : Int32))) &&& 0x3f).toInt64)) (((32 : Int32) - (x &&& (31 : Int32))) + (32 : Int32)) 32)) rfl (XS.iinc X0.here hx rfl (B d16_54) rfl (l' := (Sh6 dg x 31 (((0 : Int64).toUInt64 >>> ((x &&& (31 : Int32)) &&& 0x3f).toInt64.toUInt64).toInt64 ||| ((0 : Int64) <<< (((32 : Int32) - (x &&& (31 : Int32))) &&& 0x3f).toInt64)) (((32 : Int32) - (x &&& (31 : Int32))) + (32 : Int32)) 33)) rfl (XS.goto X0.here hx rfl (pc0 := 57) (pc' := 27) rfl (B d16_57) (by decide) (by decide) (XS.iload X0.here hx rfl (B d16_27) rfl k)))))))) ?_
  refine GoW.sg (mkF m 45 (Sh6 dg x 31 (((0 : Int64).toUInt64 >>> ((x &&& (31 : Int32)) &&& 0x3f).toInt64.toUInt64).toInt64 ||| ((0 : Int64) <<< (((32 : Int32) - (x &&& (31 : Int32))) &&& 0x3f).toInt64)) (((32 : Int32) - (x &&& (31 : Int32))) + (32 : Int32)) 33) [(.int 33), (.ref dg), (.long (((0 : Int64).toUInt64 >>> ((x &&& (31 : Int32)) &&& 0x3f).toInt64.toUInt64).toInt64 ||| ((0 : Int64) <<< (((32 : Int32) - (x &&& (31 : Int32))) &&& 0x3f).toInt64)))]) (fun t k => XS.bipush X0.here hx rfl (B d16_29) (XS.icmpNo X0.here hx rfl (B d16_31) rfl (flt y2).2.2.1 (XS.iload X0.here hx rfl (B d16_34) rfl (XS.bipush X0.here hx rfl (B d16_36) (XS.icmpNo X0.here hx rfl (B d16_38) rfl (by decide) (XS.lloadN X0.here hx rfl (B d16_41) rfl (XS.aloadN X0.here hx rfl (B d16_42) rfl rfl (XS.iload X0.here hx rfl (B d16_43) rfl k)))))))) ?_
  refine GoW.sg (mkF m 46 (Sh6 dg x 31 (((0 : Int64).toUInt64 >>> ((x &&& (31 : Int32)) &&& 0x3f).toInt64.toUInt64).toInt64 ||| ((0 : Int64) <<< (((32 : Int32) - (x &&& (31 : Int32))) &&& 0x3f).toInt64)) (((32 : Int32) - (x &&& (31 : Int32))) + (32 : Int32)) 33) [(.long (dig mm 33)), (.long (((0 : Int64).toUInt64 >>> ((x &&& (31 : Int32)) &&& 0x3f).toInt64.toUInt64).toInt64 ||| ((0 : Int64) <<< (((32 : Int32) - (x &&& (31 : Int32))) &&& 0x3f).toInt64)))]) (fun t k => own_ldL X0 hx hZ e0 P0 (i := 33) ⟨by decide, rfl, by decide⟩ (g := (mkF m 45 (Sh6 dg x 31 (((0 : Int64).toUInt64 >>> ((x &&& (31 : Int32)) &&& 0x3f).toInt64.toUInt64).toInt64 ||| ((0 : Int64) <<< (((32 : Int32) - (x &&& (31 : Int32))) &&& 0x3f).toInt64)) (((32 : Int32) - (x &&& (31 : Int32))) + (32 : Int32)) 33) [(.int 33), (.ref dg), (.long (((0 : Int64).toUInt64 >>> ((x &&& (31 : Int32)) &&& 0x3f).toInt64.toUInt64).toInt64 ||| ((0 : Int64) <<< (((32 : Int32) - (x &&& (31 : Int32))) &&& 0x3f).toInt64)))])) rfl rfl (B d16_45) t k) ?_
  refine GoW.sg (mkF m 29 (Sh6 dg x 31 ((((0 : Int64).toUInt64 >>> ((x &&& (31 : Int32)) &&& 0x3f).toInt64.toUInt64).toInt64 ||| ((0 : Int64) <<< (((32 : Int32) - (x &&& (31 : Int32))) &&& 0x3f).toInt64)) ||| ((dig mm 33) <<< ((((32 : Int32) - (x &&& (31 : Int32))) + (32 : Int32)) &&& 0x3f).toInt64)) ((((32 : Int32) - (x &&& (31 : Int32))) + (32 : Int32)) + (32 : Int32)) 34) [(.int ((((32 : Int32) - (x &&& (31 : Int32))) + (32 : Int32)) + (32 : Int32)))]) (fun t k => XS.iload X0.here hx rfl (B d16_46) rfl (XS.lshl X0.here hx rfl (B d16_48) rfl (XS.lor X0.here hx rfl (B d16_49) rfl (XS.lstoreN X0.here hx rfl (B d16_50) rfl (l' := (Sh6 dg x 31 ((((0 : Int64).toUInt64 >>> ((x &&& (31 : Int32)) &&& 0x3f).toInt64.toUInt64).toInt64 ||| ((0 : Int64) <<< (((32 : Int32) - (x &&& (31 : Int32))) &&& 0x3f).toInt64)) ||| ((dig mm 33) <<< ((((32 : Int32) - (x &&& (31 : Int32))) + (32 : Int32)) &&& 0x3f).toInt64)) (((32 : Int32) - (x &&& (31 : Int32))) + (32 : Int32)) 33)) rfl (XS.iinc X0.here hx rfl (B d16_51) rfl (l' := (Sh6 dg x 31 ((((0 : Int64).toUInt64 >>> ((x &&& (31 : Int32)) &&& 0x3f).toInt64.toUInt64).toInt64 ||| ((0 : Int64) <<< (((32 : Int32) - (x &&& (31 : Int32))) &&& 0x3f).toInt64)) ||| ((dig mm 33) <<< ((((32 : Int32) - (x &&& (31 : Int32))) + (32 : Int32)) &&& 0x3f).toInt64)) ((((32 : Int32) - (x &&& (31 : Int32))) + (32 : Int32)) + (32 : Int32)) 33)) rfl (XS.iinc X0.here hx rfl (B d16_54) rfl (l' := (Sh6 dg x 31 ((((0 : Int64).toUInt64 >>> ((x &&& (31 : Int32)) &&& 0x3f).toInt64.toUInt64).toInt64 ||| ((0 : Int64) <<< (((32 : Int32) - (x &&& (31 : Int32))) &&& 0x3f).toInt64)) ||| ((dig mm 33) <<< ((((32 : Int32) - (x &&& (31 : Int32))) + (32 : Int32)) &&& 0x3f).toInt64)) ((((32 : Int32) - (x &&& (31 : Int32))) + (32 : Int32)) + (32 : Int32)) 34)) rfl (XS.goto X0.here hx rfl (pc0 := 57) (pc' := 27) rfl (B d16_57) (by decide) (by decide) (XS.iload X0.here hx rfl (B d16_27) rfl k)))))))) ?_
  refine GoW.sg (mkF m 61 (Sh6 dg x 31 ((((0 : Int64).toUInt64 >>> ((x &&& (31 : Int32)) &&& 0x3f).toInt64.toUInt64).toInt64 ||| ((0 : Int64) <<< (((32 : Int32) - (x &&& (31 : Int32))) &&& 0x3f).toInt64)) ||| ((dig mm 33) <<< ((((32 : Int32) - (x &&& (31 : Int32))) + (32 : Int32)) &&& 0x3f).toInt64)) ((((32 : Int32) - (x &&& (31 : Int32))) + (32 : Int32)) + (32 : Int32)) 34) [(.long ((((0 : Int64).toUInt64 >>> ((x &&& (31 : Int32)) &&& 0x3f).toInt64.toUInt64).toInt64 ||| ((0 : Int64) <<< (((32 : Int32) - (x &&& (31 : Int32))) &&& 0x3f).toInt64)) ||| ((dig mm 33) <<< ((((32 : Int32) - (x &&& (31 : Int32))) + (32 : Int32)) &&& 0x3f).toInt64)))]) (fun t k => XS.bipush X0.here hx rfl (B d16_29) (XS.icmpYes X0.here hx rfl (pc0 := 31) (pc' := 60) rfl (B d16_31) rfl (tlt y3).2.2.1 (by decide) (by decide) (XS.lloadN X0.here hx rfl (B d16_60) rfl k))) ?_
  refine GoW.sg (mkF m 64 (Sh6 dg x 31 ((((0 : Int64).toUInt64 >>> ((x &&& (31 : Int32)) &&& 0x3f).toInt64.toUInt64).toInt64 ||| ((0 : Int64) <<< (((32 : Int32) - (x &&& (31 : Int32))) &&& 0x3f).toInt64)) ||| ((dig mm 33) <<< ((((32 : Int32) - (x &&& (31 : Int32))) + (32 : Int32)) &&& 0x3f).toInt64)) ((((32 : Int32) - (x &&& (31 : Int32))) + (32 : Int32)) + (32 : Int32)) 34) [(.long 9007199254740991), (.long ((((0 : Int64).toUInt64 >>> ((x &&& (31 : Int32)) &&& 0x3f).toInt64.toUInt64).toInt64 ||| ((0 : Int64) <<< (((32 : Int32) - (x &&& (31 : Int32))) &&& 0x3f).toInt64)) ||| ((dig mm 33) <<< ((((32 : Int32) - (x &&& (31 : Int32))) + (32 : Int32)) &&& 0x3f).toInt64)))]) (fun t k => X0.ldc2Long hx hown (mvT hZ (ww hw 74 rfl)) (g := (mkF m 61 (Sh6 dg x 31 ((((0 : Int64).toUInt64 >>> ((x &&& (31 : Int32)) &&& 0x3f).toInt64.toUInt64).toInt64 ||| ((0 : Int64) <<< (((32 : Int32) - (x &&& (31 : Int32))) &&& 0x3f).toInt64)) ||| ((dig mm 33) <<< ((((32 : Int32) - (x &&& (31 : Int32))) + (32 : Int32)) &&& 0x3f).toInt64)) ((((32 : Int32) - (x &&& (31 : Int32))) + (32 : Int32)) + (32 : Int32)) 34) [(.long ((((0 : Int64).toUInt64 >>> ((x &&& (31 : Int32)) &&& 0x3f).toInt64.toUInt64).toInt64 ||| ((0 : Int64) <<< (((32 : Int32) - (x &&& (31 : Int32))) &&& 0x3f).toInt64)) ||| ((dig mm 33) <<< ((((32 : Int32) - (x &&& (31 : Int32))) + (32 : Int32)) &&& 0x3f).toInt64)))])) rfl (B d16_61) t k) ?_
  refine GoW.sg (mkF m 65 (Sh6 dg x 31 ((((0 : Int64).toUInt64 >>> ((x &&& (31 : Int32)) &&& 0x3f).toInt64.toUInt64).toInt64 ||| ((0 : Int64) <<< (((32 : Int32) - (x &&& (31 : Int32))) &&& 0x3f).toInt64)) ||| ((dig mm 33) <<< ((((32 : Int32) - (x &&& (31 : Int32))) + (32 : Int32)) &&& 0x3f).toInt64)) ((((32 : Int32) - (x &&& (31 : Int32))) + (32 : Int32)) + (32 : Int32)) 34) [(.long (((((0 : Int64).toUInt64 >>> ((x &&& (31 : Int32)) &&& 0x3f).toInt64.toUInt64).toInt64 ||| ((0 : Int64) <<< (((32 : Int32) - (x &&& (31 : Int32))) &&& 0x3f).toInt64)) ||| ((dig mm 33) <<< ((((32 : Int32) - (x &&& (31 : Int32))) + (32 : Int32)) &&& 0x3f).toInt64)) &&& (9007199254740991 : Int64)))]) (fun t k => XS.land X0.here hx rfl (B d16_64) rfl k) ?_
  rw [show (((((0 : Int64).toUInt64 >>> ((x &&& (31 : Int32)) &&& 0x3f).toInt64.toUInt64).toInt64 ||| ((0 : Int64) <<< (((32 : Int32) - (x &&& (31 : Int32))) &&& 0x3f).toInt64)) ||| ((dig mm 33) <<< ((((32 : Int32) - (x &&& (31 : Int32))) + (32 : Int32)) &&& 0x3f).toInt64)) &&& (9007199254740991 : Int64)) = (mant mm) from own_bfA hB vv]
  show GoW p e below s (Q16 Z dg x kdg mm h0 n0) 0 0 (s₁.setTop (mkF m 65 (Sh6 dg x 31 ((((0 : Int64).toUInt64 >>> ((x &&& (31 : Int32)) &&& 0x3f).toInt64.toUInt64).toInt64 ||| ((0 : Int64) <<< (((32 : Int32) - (x &&& (31 : Int32))) &&& 0x3f).toInt64)) ||| ((dig mm 33) <<< ((((32 : Int32) - (x &&& (31 : Int32))) + (32 : Int32)) &&& 0x3f).toInt64)) ((((32 : Int32) - (x &&& (31 : Int32))) + (32 : Int32)) + (32 : Int32)) 34) [(.long (mant mm))]))
  refine GoW.retL X0 hx Bd.returns (B d16_65) Bd.notSynchronized ?_ (by decide) (by decide)
  rw [e0]
  exact ⟨rfl, N0, rfl⟩
 ·obtain ⟨vv, y1, y2⟩ := hA
  rw [vv]
  show GoW p e below s (Q16 Z dg x kdg mm h0 n0) 0 0 (s₁.setTop (mkF m 4 (Sh3 dg x 32) []))
  refine GoW.sg (mkF m 6 (Sh3 dg x 32) [(.int 32), (.ref dg)]) (fun t k => XS.aloadN X0.here hx rfl (B d16_4) rfl rfl (XS.iloadN X0.here hx rfl (B d16_5) rfl k)) ?_
  refine GoW.sg (mkF m 7 (Sh3 dg x 32) [(.long (dig mm 32))]) (fun t k => own_ldL X0 hx hZ e0 P0 (i := 32) ⟨by decide, rfl, by decide⟩ (g := (mkF m 6 (Sh3 dg x 32) [(.int 32), (.ref dg)])) rfl rfl (B d16_6) t k) ?_
  rw [show (dig mm 32) = (0 : Int64) from rfl]
  show GoW p e below s (Q16 Z dg x kdg mm h0 n0) 0 0 (s₁.setTop (mkF m 7 (Sh3 dg x 32) [(.long 0)]))
  refine GoW.sg (mkF m 18 (Sh4 dg x 32 (((0 : Int64).toUInt64 >>> ((x &&& (31 : Int32)) &&& 0x3f).toInt64.toUInt64).toInt64)) [(.int 31), (.int x), (.int 32)]) (fun t k => XS.iloadN X0.here hx rfl (B d16_7) rfl (XS.bipush X0.here hx rfl (B d16_8) (XS.iand X0.here hx rfl (B d16_10) rfl (XS.lushr X0.here hx rfl (B d16_11) rfl (XS.lstoreN X0.here hx rfl (B d16_12) rfl (l' := (Sh4 dg x 32 (((0 : Int64).toUInt64 >>> ((x &&& (31 : Int32)) &&& 0x3f).toInt64.toUInt64).toInt64))) rfl (XS.bipush X0.here hx rfl (B d16_13) (XS.iloadN X0.here hx rfl (B d16_15) rfl (XS.bipush X0.here hx rfl (B d16_16) k)))))))) ?_
  refine GoW.sg (mkF m 24 (Sh5 dg x 32 (((0 : Int64).toUInt64 >>> ((x &&& (31 : Int32)) &&& 0x3f).toInt64.toUInt64).toInt64) ((32 : Int32) - (x &&& (31 : Int32)))) [(.int 1), (.int 32)]) (fun t k => XS.iand X0.here hx rfl (B d16_18) rfl (XS.isub X0.here hx rfl (B d16_19) rfl (XS.istore X0.here hx rfl (B d16_20) rfl (l' := (Sh5 dg x 32 (((0 : Int64).toUInt64 >>> ((x &&& (31 : Int32)) &&& 0x3f).toInt64.toUInt64).toInt64) ((32 : Int32) - (x &&& (31 : Int32))))) rfl (XS.iloadN X0.here hx rfl (B d16_22) rfl (XS.iconst X0.here hx rfl (B d16_23) k))))) ?_
  refine GoW.st (fun t k => XS.iadd X0.here hx rfl (B d16_24) rfl k) ?_
  rw [show ((32 : Int32) + (1 : Int32)) = (33 : Int32) from by decide]
  show GoW p e below s (Q16 Z dg x kdg mm h0 n0) 0 0 (s₁.setTop (mkF m 25 (Sh5 dg x 32 (((0 : Int64).toUInt64 >>> ((x &&& (31 : Int32)) &&& 0x3f).toInt64.toUInt64).toInt64) ((32 : Int32) - (x &&& (31 : Int32)))) [(.int 33)]))
  refine GoW.sg (mkF m 42 (Sh6 dg x 32 (((0 : Int64).toUInt64 >>> ((x &&& (31 : Int32)) &&& 0x3f).toInt64.toUInt64).toInt64) ((32 : Int32) - (x &&& (31 : Int32))) 33) [(.long ((0 : Int64).toUInt64 >>> ((x &&& (31 : Int32)) &&& 0x3f).toInt64.toUInt64).toInt64)]) (fun t k => XS.istore X0.here hx rfl (B d16_25) rfl (l' := (Sh6 dg x 32 (((0 : Int64).toUInt64 >>> ((x &&& (31 : Int32)) &&& 0x3f).toInt64.toUInt64).toInt64) ((32 : Int32) - (x &&& (31 : Int32))) 33)) rfl (XS.iload X0.here hx rfl (B d16_27) rfl (XS.bipush X0.here hx rfl (B d16_29) (XS.icmpNo X0.here hx rfl (B d16_31) rfl (flt y1).2.2.1 (XS.iload X0.here hx rfl (B d16_34) rfl (XS.bipush X0.here hx rfl (B d16_36) (XS.icmpNo X0.here hx rfl (B d16_38) rfl (by decide) (XS.lloadN X0.here hx rfl (B d16_41) rfl k)))))))) ?_
  refine GoW.sg (mkF m 45 (Sh6 dg x 32 (((0 : Int64).toUInt64 >>> ((x &&& (31 : Int32)) &&& 0x3f).toInt64.toUInt64).toInt64) ((32 : Int32) - (x &&& (31 : Int32))) 33) [(.int 33), (.ref dg), (.long ((0 : Int64).toUInt64 >>> ((x &&& (31 : Int32)) &&& 0x3f).toInt64.toUInt64).toInt64)]) (fun t k => XS.aloadN X0.here hx rfl (B d16_42) rfl rfl (XS.iload X0.here hx rfl (B d16_43) rfl k)) ?_
  refine GoW.sg (mkF m 46 (Sh6 dg x 32 (((0 : Int64).toUInt64 >>> ((x &&& (31 : Int32)) &&& 0x3f).toInt64.toUInt64).toInt64) ((32 : Int32) - (x &&& (31 : Int32))) 33) [(.long (dig mm 33)), (.long ((0 : Int64).toUInt64 >>> ((x &&& (31 : Int32)) &&& 0x3f).toInt64.toUInt64).toInt64)]) (fun t k => own_ldL X0 hx hZ e0 P0 (i := 33) ⟨by decide, rfl, by decide⟩ (g := (mkF m 45 (Sh6 dg x 32 (((0 : Int64).toUInt64 >>> ((x &&& (31 : Int32)) &&& 0x3f).toInt64.toUInt64).toInt64) ((32 : Int32) - (x &&& (31 : Int32))) 33) [(.int 33), (.ref dg), (.long ((0 : Int64).toUInt64 >>> ((x &&& (31 : Int32)) &&& 0x3f).toInt64.toUInt64).toInt64)])) rfl rfl (B d16_45) t k) ?_
  refine GoW.sg (mkF m 29 (Sh6 dg x 32 (((0 : Int64).toUInt64 >>> ((x &&& (31 : Int32)) &&& 0x3f).toInt64.toUInt64).toInt64 ||| ((dig mm 33) <<< (((32 : Int32) - (x &&& (31 : Int32))) &&& 0x3f).toInt64)) (((32 : Int32) - (x &&& (31 : Int32))) + (32 : Int32)) 34) [(.int (((32 : Int32) - (x &&& (31 : Int32))) + (32 : Int32)))]) (fun t k => XS.iload X0.here hx rfl (B d16_46) rfl (XS.lshl X0.here hx rfl (B d16_48) rfl (XS.lor X0.here hx rfl (B d16_49) rfl (XS.lstoreN X0.here hx rfl (B d16_50) rfl (l' := (Sh6 dg x 32 (((0 : Int64).toUInt64 >>> ((x &&& (31 : Int32)) &&& 0x3f).toInt64.toUInt64).toInt64 ||| ((dig mm 33) <<< (((32 : Int32) - (x &&& (31 : Int32))) &&& 0x3f).toInt64)) ((32 : Int32) - (x &&& (31 : Int32))) 33)) rfl (XS.iinc X0.here hx rfl (B d16_51) rfl (l' := (Sh6 dg x 32 (((0 : Int64).toUInt64 >>> ((x &&& (31 : Int32)) &&& 0x3f).toInt64.toUInt64).toInt64 ||| ((dig mm 33) <<< (((32 : Int32) - (x &&& (31 : Int32))) &&& 0x3f).toInt64)) (((32 : Int32) - (x &&& (31 : Int32))) + (32 : Int32)) 33)) rfl (XS.iinc X0.here hx rfl (B d16_54) rfl (l' := (Sh6 dg x 32 (((0 : Int64).toUInt64 >>> ((x &&& (31 : Int32)) &&& 0x3f).toInt64.toUInt64).toInt64 ||| ((dig mm 33) <<< (((32 : Int32) - (x &&& (31 : Int32))) &&& 0x3f).toInt64)) (((32 : Int32) - (x &&& (31 : Int32))) + (32 : Int32)) 34)) rfl (XS.goto X0.here hx rfl (pc0 := 57) (pc' := 27) rfl (B d16_57) (by decide) (by decide) (XS.iload X0.here hx rfl (B d16_27) rfl k)))))))) ?_
  refine GoW.sg (mkF m 61 (Sh6 dg x 32 (((0 : Int64).toUInt64 >>> ((x &&& (31 : Int32)) &&& 0x3f).toInt64.toUInt64).toInt64 ||| ((dig mm 33) <<< (((32 : Int32) - (x &&& (31 : Int32))) &&& 0x3f).toInt64)) (((32 : Int32) - (x &&& (31 : Int32))) + (32 : Int32)) 34) [(.long (((0 : Int64).toUInt64 >>> ((x &&& (31 : Int32)) &&& 0x3f).toInt64.toUInt64).toInt64 ||| ((dig mm 33) <<< (((32 : Int32) - (x &&& (31 : Int32))) &&& 0x3f).toInt64)))]) (fun t k => XS.bipush X0.here hx rfl (B d16_29) (XS.icmpYes X0.here hx rfl (pc0 := 31) (pc' := 60) rfl (B d16_31) rfl (tlt y2).2.2.1 (by decide) (by decide) (XS.lloadN X0.here hx rfl (B d16_60) rfl k))) ?_
  refine GoW.sg (mkF m 64 (Sh6 dg x 32 (((0 : Int64).toUInt64 >>> ((x &&& (31 : Int32)) &&& 0x3f).toInt64.toUInt64).toInt64 ||| ((dig mm 33) <<< (((32 : Int32) - (x &&& (31 : Int32))) &&& 0x3f).toInt64)) (((32 : Int32) - (x &&& (31 : Int32))) + (32 : Int32)) 34) [(.long 9007199254740991), (.long (((0 : Int64).toUInt64 >>> ((x &&& (31 : Int32)) &&& 0x3f).toInt64.toUInt64).toInt64 ||| ((dig mm 33) <<< (((32 : Int32) - (x &&& (31 : Int32))) &&& 0x3f).toInt64)))]) (fun t k => X0.ldc2Long hx hown (mvT hZ (ww hw 74 rfl)) (g := (mkF m 61 (Sh6 dg x 32 (((0 : Int64).toUInt64 >>> ((x &&& (31 : Int32)) &&& 0x3f).toInt64.toUInt64).toInt64 ||| ((dig mm 33) <<< (((32 : Int32) - (x &&& (31 : Int32))) &&& 0x3f).toInt64)) (((32 : Int32) - (x &&& (31 : Int32))) + (32 : Int32)) 34) [(.long (((0 : Int64).toUInt64 >>> ((x &&& (31 : Int32)) &&& 0x3f).toInt64.toUInt64).toInt64 ||| ((dig mm 33) <<< (((32 : Int32) - (x &&& (31 : Int32))) &&& 0x3f).toInt64)))])) rfl (B d16_61) t k) ?_
  refine GoW.sg (mkF m 65 (Sh6 dg x 32 (((0 : Int64).toUInt64 >>> ((x &&& (31 : Int32)) &&& 0x3f).toInt64.toUInt64).toInt64 ||| ((dig mm 33) <<< (((32 : Int32) - (x &&& (31 : Int32))) &&& 0x3f).toInt64)) (((32 : Int32) - (x &&& (31 : Int32))) + (32 : Int32)) 34) [(.long ((((0 : Int64).toUInt64 >>> ((x &&& (31 : Int32)) &&& 0x3f).toInt64.toUInt64).toInt64 ||| ((dig mm 33) <<< (((32 : Int32) - (x &&& (31 : Int32))) &&& 0x3f).toInt64)) &&& (9007199254740991 : Int64)))]) (fun t k => XS.land X0.here hx rfl (B d16_64) rfl k) ?_
  rw [show ((((0 : Int64).toUInt64 >>> ((x &&& (31 : Int32)) &&& 0x3f).toInt64.toUInt64).toInt64 ||| ((dig mm 33) <<< (((32 : Int32) - (x &&& (31 : Int32))) &&& 0x3f).toInt64)) &&& (9007199254740991 : Int64)) = (mant mm) from own_bfB hB vv y2]
  show GoW p e below s (Q16 Z dg x kdg mm h0 n0) 0 0 (s₁.setTop (mkF m 65 (Sh6 dg x 32 (((0 : Int64).toUInt64 >>> ((x &&& (31 : Int32)) &&& 0x3f).toInt64.toUInt64).toInt64 ||| ((dig mm 33) <<< (((32 : Int32) - (x &&& (31 : Int32))) &&& 0x3f).toInt64)) (((32 : Int32) - (x &&& (31 : Int32))) + (32 : Int32)) 34) [(.long (mant mm))]))
  refine GoW.retL X0 hx Bd.returns (B d16_65) Bd.notSynchronized ?_ (by decide) (by decide)
  rw [e0]
  exact ⟨rfl, N0, rfl⟩
 ·obtain ⟨vv, y1, y2, y3⟩ := hA
  rw [vv]
  show GoW p e below s (Q16 Z dg x kdg mm h0 n0) 0 0 (s₁.setTop (mkF m 4 (Sh3 dg x 32) []))
  refine GoW.sg (mkF m 6 (Sh3 dg x 32) [(.int 32), (.ref dg)]) (fun t k => XS.aloadN X0.here hx rfl (B d16_4) rfl rfl (XS.iloadN X0.here hx rfl (B d16_5) rfl k)) ?_
  refine GoW.sg (mkF m 7 (Sh3 dg x 32) [(.long (dig mm 32))]) (fun t k => own_ldL X0 hx hZ e0 P0 (i := 32) ⟨by decide, rfl, by decide⟩ (g := (mkF m 6 (Sh3 dg x 32) [(.int 32), (.ref dg)])) rfl rfl (B d16_6) t k) ?_
  rw [show (dig mm 32) = (0 : Int64) from rfl]
  show GoW p e below s (Q16 Z dg x kdg mm h0 n0) 0 0 (s₁.setTop (mkF m 7 (Sh3 dg x 32) [(.long 0)]))
  refine GoW.sg (mkF m 18 (Sh4 dg x 32 (((0 : Int64).toUInt64 >>> ((x &&& (31 : Int32)) &&& 0x3f).toInt64.toUInt64).toInt64)) [(.int 31), (.int x), (.int 32)]) (fun t k => XS.iloadN X0.here hx rfl (B d16_7) rfl (XS.bipush X0.here hx rfl (B d16_8) (XS.iand X0.here hx rfl (B d16_10) rfl (XS.lushr X0.here hx rfl (B d16_11) rfl (XS.lstoreN X0.here hx rfl (B d16_12) rfl (l' := (Sh4 dg x 32 (((0 : Int64).toUInt64 >>> ((x &&& (31 : Int32)) &&& 0x3f).toInt64.toUInt64).toInt64))) rfl (XS.bipush X0.here hx rfl (B d16_13) (XS.iloadN X0.here hx rfl (B d16_15) rfl (XS.bipush X0.here hx rfl (B d16_16) k)))))))) ?_
  refine GoW.sg (mkF m 24 (Sh5 dg x 32 (((0 : Int64).toUInt64 >>> ((x &&& (31 : Int32)) &&& 0x3f).toInt64.toUInt64).toInt64) ((32 : Int32) - (x &&& (31 : Int32)))) [(.int 1), (.int 32)]) (fun t k => XS.iand X0.here hx rfl (B d16_18) rfl (XS.isub X0.here hx rfl (B d16_19) rfl (XS.istore X0.here hx rfl (B d16_20) rfl (l' := (Sh5 dg x 32 (((0 : Int64).toUInt64 >>> ((x &&& (31 : Int32)) &&& 0x3f).toInt64.toUInt64).toInt64) ((32 : Int32) - (x &&& (31 : Int32))))) rfl (XS.iloadN X0.here hx rfl (B d16_22) rfl (XS.iconst X0.here hx rfl (B d16_23) k))))) ?_
  refine GoW.st (fun t k => XS.iadd X0.here hx rfl (B d16_24) rfl k) ?_
  rw [show ((32 : Int32) + (1 : Int32)) = (33 : Int32) from by decide]
  show GoW p e below s (Q16 Z dg x kdg mm h0 n0) 0 0 (s₁.setTop (mkF m 25 (Sh5 dg x 32 (((0 : Int64).toUInt64 >>> ((x &&& (31 : Int32)) &&& 0x3f).toInt64.toUInt64).toInt64) ((32 : Int32) - (x &&& (31 : Int32)))) [(.int 33)]))
  refine GoW.sg (mkF m 42 (Sh6 dg x 32 (((0 : Int64).toUInt64 >>> ((x &&& (31 : Int32)) &&& 0x3f).toInt64.toUInt64).toInt64) ((32 : Int32) - (x &&& (31 : Int32))) 33) [(.long ((0 : Int64).toUInt64 >>> ((x &&& (31 : Int32)) &&& 0x3f).toInt64.toUInt64).toInt64)]) (fun t k => XS.istore X0.here hx rfl (B d16_25) rfl (l' := (Sh6 dg x 32 (((0 : Int64).toUInt64 >>> ((x &&& (31 : Int32)) &&& 0x3f).toInt64.toUInt64).toInt64) ((32 : Int32) - (x &&& (31 : Int32))) 33)) rfl (XS.iload X0.here hx rfl (B d16_27) rfl (XS.bipush X0.here hx rfl (B d16_29) (XS.icmpNo X0.here hx rfl (B d16_31) rfl (flt y1).2.2.1 (XS.iload X0.here hx rfl (B d16_34) rfl (XS.bipush X0.here hx rfl (B d16_36) (XS.icmpNo X0.here hx rfl (B d16_38) rfl (by decide) (XS.lloadN X0.here hx rfl (B d16_41) rfl k)))))))) ?_
  refine GoW.sg (mkF m 45 (Sh6 dg x 32 (((0 : Int64).toUInt64 >>> ((x &&& (31 : Int32)) &&& 0x3f).toInt64.toUInt64).toInt64) ((32 : Int32) - (x &&& (31 : Int32))) 33) [(.int 33), (.ref dg), (.long ((0 : Int64).toUInt64 >>> ((x &&& (31 : Int32)) &&& 0x3f).toInt64.toUInt64).toInt64)]) (fun t k => XS.aloadN X0.here hx rfl (B d16_42) rfl rfl (XS.iload X0.here hx rfl (B d16_43) rfl k)) ?_
  refine GoW.sg (mkF m 46 (Sh6 dg x 32 (((0 : Int64).toUInt64 >>> ((x &&& (31 : Int32)) &&& 0x3f).toInt64.toUInt64).toInt64) ((32 : Int32) - (x &&& (31 : Int32))) 33) [(.long (dig mm 33)), (.long ((0 : Int64).toUInt64 >>> ((x &&& (31 : Int32)) &&& 0x3f).toInt64.toUInt64).toInt64)]) (fun t k => own_ldL X0 hx hZ e0 P0 (i := 33) ⟨by decide, rfl, by decide⟩ (g := (mkF m 45 (Sh6 dg x 32 (((0 : Int64).toUInt64 >>> ((x &&& (31 : Int32)) &&& 0x3f).toInt64.toUInt64).toInt64) ((32 : Int32) - (x &&& (31 : Int32))) 33) [(.int 33), (.ref dg), (.long ((0 : Int64).toUInt64 >>> ((x &&& (31 : Int32)) &&& 0x3f).toInt64.toUInt64).toInt64)])) rfl rfl (B d16_45) t k) ?_
  refine GoW.sg (mkF m 29 (Sh6 dg x 32 (((0 : Int64).toUInt64 >>> ((x &&& (31 : Int32)) &&& 0x3f).toInt64.toUInt64).toInt64 ||| ((dig mm 33) <<< (((32 : Int32) - (x &&& (31 : Int32))) &&& 0x3f).toInt64)) (((32 : Int32) - (x &&& (31 : Int32))) + (32 : Int32)) 34) [(.int (((32 : Int32) - (x &&& (31 : Int32))) + (32 : Int32)))]) (fun t k => XS.iload X0.here hx rfl (B d16_46) rfl (XS.lshl X0.here hx rfl (B d16_48) rfl (XS.lor X0.here hx rfl (B d16_49) rfl (XS.lstoreN X0.here hx rfl (B d16_50) rfl (l' := (Sh6 dg x 32 (((0 : Int64).toUInt64 >>> ((x &&& (31 : Int32)) &&& 0x3f).toInt64.toUInt64).toInt64 ||| ((dig mm 33) <<< (((32 : Int32) - (x &&& (31 : Int32))) &&& 0x3f).toInt64)) ((32 : Int32) - (x &&& (31 : Int32))) 33)) rfl (XS.iinc X0.here hx rfl (B d16_51) rfl (l' := (Sh6 dg x 32 (((0 : Int64).toUInt64 >>> ((x &&& (31 : Int32)) &&& 0x3f).toInt64.toUInt64).toInt64 ||| ((dig mm 33) <<< (((32 : Int32) - (x &&& (31 : Int32))) &&& 0x3f).toInt64)) (((32 : Int32) - (x &&& (31 : Int32))) + (32 : Int32)) 33)) rfl (XS.iinc X0.here hx rfl (B d16_54) rfl (l' := (Sh6 dg x 32 (((0 : Int64).toUInt64 >>> ((x &&& (31 : Int32)) &&& 0x3f).toInt64.toUInt64).toInt64 ||| ((dig mm 33) <<< (((32 : Int32) - (x &&& (31 : Int32))) &&& 0x3f).toInt64)) (((32 : Int32) - (x &&& (31 : Int32))) + (32 : Int32)) 34)) rfl (XS.goto X0.here hx rfl (pc0 := 57) (pc' := 27) rfl (B d16_57) (by decide) (by decide) (XS.iload X0.here hx rfl (B d16_27) rfl k)))))))) ?_
  refine GoW.sg (mkF m 45 (Sh6 dg x 32 (((0 : Int64).toUInt64 >>> ((x &&& (31 : Int32)) &&& 0x3f).toInt64.toUInt64).toInt64 ||| ((dig mm 33) <<< (((32 : Int32) - (x &&& (31 : Int32))) &&& 0x3f).toInt64)) (((32 : Int32) - (x &&& (31 : Int32))) + (32 : Int32)) 34) [(.int 34), (.ref dg), (.long (((0 : Int64).toUInt64 >>> ((x &&& (31 : Int32)) &&& 0x3f).toInt64.toUInt64).toInt64 ||| ((dig mm 33) <<< (((32 : Int32) - (x &&& (31 : Int32))) &&& 0x3f).toInt64)))]) (fun t k => XS.bipush X0.here hx rfl (B d16_29) (XS.icmpNo X0.here hx rfl (B d16_31) rfl (flt y2).2.2.1 (XS.iload X0.here hx rfl (B d16_34) rfl (XS.bipush X0.here hx rfl (B d16_36) (XS.icmpNo X0.here hx rfl (B d16_38) rfl (by decide) (XS.lloadN X0.here hx rfl (B d16_41) rfl (XS.aloadN X0.here hx rfl (B d16_42) rfl rfl (XS.iload X0.here hx rfl (B d16_43) rfl k)))))))) ?_
  refine GoW.sg (mkF m 46 (Sh6 dg x 32 (((0 : Int64).toUInt64 >>> ((x &&& (31 : Int32)) &&& 0x3f).toInt64.toUInt64).toInt64 ||| ((dig mm 33) <<< (((32 : Int32) - (x &&& (31 : Int32))) &&& 0x3f).toInt64)) (((32 : Int32) - (x &&& (31 : Int32))) + (32 : Int32)) 34) [(.long (dig mm 34)), (.long (((0 : Int64).toUInt64 >>> ((x &&& (31 : Int32)) &&& 0x3f).toInt64.toUInt64).toInt64 ||| ((dig mm 33) <<< (((32 : Int32) - (x &&& (31 : Int32))) &&& 0x3f).toInt64)))]) (fun t k => own_ldL X0 hx hZ e0 P0 (i := 34) ⟨by decide, rfl, by decide⟩ (g := (mkF m 45 (Sh6 dg x 32 (((0 : Int64).toUInt64 >>> ((x &&& (31 : Int32)) &&& 0x3f).toInt64.toUInt64).toInt64 ||| ((dig mm 33) <<< (((32 : Int32) - (x &&& (31 : Int32))) &&& 0x3f).toInt64)) (((32 : Int32) - (x &&& (31 : Int32))) + (32 : Int32)) 34) [(.int 34), (.ref dg), (.long (((0 : Int64).toUInt64 >>> ((x &&& (31 : Int32)) &&& 0x3f).toInt64.toUInt64).toInt64 ||| ((dig mm 33) <<< (((32 : Int32) - (x &&& (31 : Int32))) &&& 0x3f).toInt64)))])) rfl rfl (B d16_45) t k) ?_
  refine GoW.sg (mkF m 29 (Sh6 dg x 32 ((((0 : Int64).toUInt64 >>> ((x &&& (31 : Int32)) &&& 0x3f).toInt64.toUInt64).toInt64 ||| ((dig mm 33) <<< (((32 : Int32) - (x &&& (31 : Int32))) &&& 0x3f).toInt64)) ||| ((dig mm 34) <<< ((((32 : Int32) - (x &&& (31 : Int32))) + (32 : Int32)) &&& 0x3f).toInt64)) ((((32 : Int32) - (x &&& (31 : Int32))) + (32 : Int32)) + (32 : Int32)) 35) [(.int ((((32 : Int32) - (x &&& (31 : Int32))) + (32 : Int32)) + (32 : Int32)))]) (fun t k => XS.iload X0.here hx rfl (B d16_46) rfl (XS.lshl X0.here hx rfl (B d16_48) rfl (XS.lor X0.here hx rfl (B d16_49) rfl (XS.lstoreN X0.here hx rfl (B d16_50) rfl (l' := (Sh6 dg x 32 ((((0 : Int64).toUInt64 >>> ((x &&& (31 : Int32)) &&& 0x3f).toInt64.toUInt64).toInt64 ||| ((dig mm 33) <<< (((32 : Int32) - (x &&& (31 : Int32))) &&& 0x3f).toInt64)) ||| ((dig mm 34) <<< ((((32 : Int32) - (x &&& (31 : Int32))) + (32 : Int32)) &&& 0x3f).toInt64)) (((32 : Int32) - (x &&& (31 : Int32))) + (32 : Int32)) 34)) rfl (XS.iinc X0.here hx rfl (B d16_51) rfl (l' := (Sh6 dg x 32 ((((0 : Int64).toUInt64 >>> ((x &&& (31 : Int32)) &&& 0x3f).toInt64.toUInt64).toInt64 ||| ((dig mm 33) <<< (((32 : Int32) - (x &&& (31 : Int32))) &&& 0x3f).toInt64)) ||| ((dig mm 34) <<< ((((32 : Int32) - (x &&& (31 : Int32))) + (32 : Int32)) &&& 0x3f).toInt64)) ((((32 : Int32) - (x &&& (31 : Int32))) + (32 : Int32)) + (32 : Int32)) 34)) rfl (XS.iinc X0.here hx rfl (B d16_54) rfl (l' := (Sh6 dg x 32 ((((0 : Int64).toUInt64 >>> ((x &&& (31 : Int32)) &&& 0x3f).toInt64.toUInt64).toInt64 ||| ((dig mm 33) <<< (((32 : Int32) - (x &&& (31 : Int32))) &&& 0x3f).toInt64)) ||| ((dig mm 34) <<< ((((32 : Int32) - (x &&& (31 : Int32))) + (32 : Int32)) &&& 0x3f).toInt64)) ((((32 : Int32) - (x &&& (31 : Int32))) + (32 : Int32)) + (32 : Int32)) 35)) rfl (XS.goto X0.here hx rfl (pc0 := 57) (pc' := 27) rfl (B d16_57) (by decide) (by decide) (XS.iload X0.here hx rfl (B d16_27) rfl k)))))))) ?_
  refine GoW.sg (mkF m 61 (Sh6 dg x 32 ((((0 : Int64).toUInt64 >>> ((x &&& (31 : Int32)) &&& 0x3f).toInt64.toUInt64).toInt64 ||| ((dig mm 33) <<< (((32 : Int32) - (x &&& (31 : Int32))) &&& 0x3f).toInt64)) ||| ((dig mm 34) <<< ((((32 : Int32) - (x &&& (31 : Int32))) + (32 : Int32)) &&& 0x3f).toInt64)) ((((32 : Int32) - (x &&& (31 : Int32))) + (32 : Int32)) + (32 : Int32)) 35) [(.long ((((0 : Int64).toUInt64 >>> ((x &&& (31 : Int32)) &&& 0x3f).toInt64.toUInt64).toInt64 ||| ((dig mm 33) <<< (((32 : Int32) - (x &&& (31 : Int32))) &&& 0x3f).toInt64)) ||| ((dig mm 34) <<< ((((32 : Int32) - (x &&& (31 : Int32))) + (32 : Int32)) &&& 0x3f).toInt64)))]) (fun t k => XS.bipush X0.here hx rfl (B d16_29) (XS.icmpYes X0.here hx rfl (pc0 := 31) (pc' := 60) rfl (B d16_31) rfl (tlt y3).2.2.1 (by decide) (by decide) (XS.lloadN X0.here hx rfl (B d16_60) rfl k))) ?_
  refine GoW.sg (mkF m 64 (Sh6 dg x 32 ((((0 : Int64).toUInt64 >>> ((x &&& (31 : Int32)) &&& 0x3f).toInt64.toUInt64).toInt64 ||| ((dig mm 33) <<< (((32 : Int32) - (x &&& (31 : Int32))) &&& 0x3f).toInt64)) ||| ((dig mm 34) <<< ((((32 : Int32) - (x &&& (31 : Int32))) + (32 : Int32)) &&& 0x3f).toInt64)) ((((32 : Int32) - (x &&& (31 : Int32))) + (32 : Int32)) + (32 : Int32)) 35) [(.long 9007199254740991), (.long ((((0 : Int64).toUInt64 >>> ((x &&& (31 : Int32)) &&& 0x3f).toInt64.toUInt64).toInt64 ||| ((dig mm 33) <<< (((32 : Int32) - (x &&& (31 : Int32))) &&& 0x3f).toInt64)) ||| ((dig mm 34) <<< ((((32 : Int32) - (x &&& (31 : Int32))) + (32 : Int32)) &&& 0x3f).toInt64)))]) (fun t k => X0.ldc2Long hx hown (mvT hZ (ww hw 74 rfl)) (g := (mkF m 61 (Sh6 dg x 32 ((((0 : Int64).toUInt64 >>> ((x &&& (31 : Int32)) &&& 0x3f).toInt64.toUInt64).toInt64 ||| ((dig mm 33) <<< (((32 : Int32) - (x &&& (31 : Int32))) &&& 0x3f).toInt64)) ||| ((dig mm 34) <<< ((((32 : Int32) - (x &&& (31 : Int32))) + (32 : Int32)) &&& 0x3f).toInt64)) ((((32 : Int32) - (x &&& (31 : Int32))) + (32 : Int32)) + (32 : Int32)) 35) [(.long ((((0 : Int64).toUInt64 >>> ((x &&& (31 : Int32)) &&& 0x3f).toInt64.toUInt64).toInt64 ||| ((dig mm 33) <<< (((32 : Int32) - (x &&& (31 : Int32))) &&& 0x3f).toInt64)) ||| ((dig mm 34) <<< ((((32 : Int32) - (x &&& (31 : Int32))) + (32 : Int32)) &&& 0x3f).toInt64)))])) rfl (B d16_61) t k) ?_
  refine GoW.sg (mkF m 65 (Sh6 dg x 32 ((((0 : Int64).toUInt64 >>> ((x &&& (31 : Int32)) &&& 0x3f).toInt64.toUInt64).toInt64 ||| ((dig mm 33) <<< (((32 : Int32) - (x &&& (31 : Int32))) &&& 0x3f).toInt64)) ||| ((dig mm 34) <<< ((((32 : Int32) - (x &&& (31 : Int32))) + (32 : Int32)) &&& 0x3f).toInt64)) ((((32 : Int32) - (x &&& (31 : Int32))) + (32 : Int32)) + (32 : Int32)) 35) [(.long (((((0 : Int64).toUInt64 >>> ((x &&& (31 : Int32)) &&& 0x3f).toInt64.toUInt64).toInt64 ||| ((dig mm 33) <<< (((32 : Int32) - (x &&& (31 : Int32))) &&& 0x3f).toInt64)) ||| ((dig mm 34) <<< ((((32 : Int32) - (x &&& (31 : Int32))) + (32 : Int32)) &&& 0x3f).toInt64)) &&& (9007199254740991 : Int64)))]) (fun t k => XS.land X0.here hx rfl (B d16_64) rfl k) ?_
  rw [show (((((0 : Int64).toUInt64 >>> ((x &&& (31 : Int32)) &&& 0x3f).toInt64.toUInt64).toInt64 ||| ((dig mm 33) <<< (((32 : Int32) - (x &&& (31 : Int32))) &&& 0x3f).toInt64)) ||| ((dig mm 34) <<< ((((32 : Int32) - (x &&& (31 : Int32))) + (32 : Int32)) &&& 0x3f).toInt64)) &&& (9007199254740991 : Int64)) = (mant mm) from own_bfD hB vv y2]
  show GoW p e below s (Q16 Z dg x kdg mm h0 n0) 0 0 (s₁.setTop (mkF m 65 (Sh6 dg x 32 ((((0 : Int64).toUInt64 >>> ((x &&& (31 : Int32)) &&& 0x3f).toInt64.toUInt64).toInt64 ||| ((dig mm 33) <<< (((32 : Int32) - (x &&& (31 : Int32))) &&& 0x3f).toInt64)) ||| ((dig mm 34) <<< ((((32 : Int32) - (x &&& (31 : Int32))) + (32 : Int32)) &&& 0x3f).toInt64)) ((((32 : Int32) - (x &&& (31 : Int32))) + (32 : Int32)) + (32 : Int32)) 35) [(.long (mant mm))]))
  refine GoW.retL X0 hx Bd.returns (B d16_65) Bd.notSynchronized ?_ (by decide) (by decide)
  rw [e0]
  exact ⟨rfl, N0, rfl⟩
def Q15 (Z : State) (dg : Addr) (x : Int32) (kdg : ClassId) (mm : Nat) (h0 : Heap) (n0 : Nat) (v : Option Value) (h : Heap) (L : List Loc) : Prop := v = some (.long (lb mm)) ∧ Fr n0 L ∧ (h = h0)
theorem rm15 (l : Launch) (Z : State) (a0 : Array Value) (hw : HW a0 Z) (dg : Addr) (x : Int32) (kdg : ClassId) (mm : Nat) (h0 : Heap) (n0 : Nat) (P0 : Lon Z h0 dg kdg (36 : Int32) (dig mm)) (hN : Nr mm x) :
  MM l Z Y15 prog_7_method_15_code 5 (some .long) 1 0 0 18 #[(.ref dg), (.int x)] h0 (Q15 Z dg x kdg mm h0 n0) := by
 refine own_start (fun m => (mkF m 0 (Sh7 dg x) [])) (plainFor_of_name pn_com_example_nearterm_nearterm_embedding_ExactSums) (by simp [entryFrame, mkF, argsToLocals, Value.category]) n0 ?_
 intro p e s m below meth c s₁ Bd hx B hml hZ hown hnm X0 e0 N0
 have y0 : (53 : Int32) < x := own_n53 hN
 refine GoW.sg (mkF m 23 (Sh8 dg x (x - (53 : Int32))) [(.ref dg)]) (fun t k => XS.iloadN X0.here hx rfl (B d15_0) rfl (XS.bipush X0.here hx rfl (B d15_1) (XS.icmpYes X0.here hx rfl (pc0 := 3) (pc' := 17) rfl (B d15_3) rfl (tlt y0).2.2.1 (by decide) (by decide) (XS.iloadN X0.here hx rfl (B d15_17) rfl (XS.bipush X0.here hx rfl (B d15_18) (XS.isub X0.here hx rfl (B d15_20) rfl (XS.istoreN X0.here hx rfl (B d15_21) rfl (l' := (Sh8 dg x (x - (53 : Int32)))) rfl (XS.aloadN X0.here hx rfl (B d15_22) rfl rfl k)))))))) ?_
 refine GoW.sg (mkF m 24 (Sh8 dg x (x - (53 : Int32))) [(.int (x - (53 : Int32))), (.ref dg)]) (fun t k => XS.iloadN X0.here hx rfl (B d15_23) rfl k) ?_
 obtain ⟨_, T26, L26, X26, hQ26, st26⟩ := own_callS X0 hx hZ hown (y := Y16) (ww hw 71 rfl) (ww hw 72 rfl) (ww hw 2 rfl) (ww hw 73 rfl) (by decide) 0 (rm16 l Z a0 hw dg (x - (53 : Int32)) kdg mm h0 n0  P0     (own_nbf hN)) (by decide) (by decide) e0 (by decide) (by decide) (g := (mkF m 24 (Sh8 dg x (x - (53 : Int32))) [(.int (x - (53 : Int32))), (.ref dg)])) rfl (by rw [hml]; rfl) (argsL := [(.ref dg), (.int (x - (53 : Int32)))]) (rest := []) (lenOf pd_285bJI29J rfl) rfl (Nat.le_of_eq rfl) (B d15_24)
 obtain ⟨rfl, N26q, e26⟩ := hQ26
 have N26 := Fr.app N0 N26q
 refine GoW.sg (mkF m 27 (Sh8 dg x (x - (53 : Int32))) [(.long (mant mm))]) (fun t k => st26 t k) ?_
 refine GoW.sg (mkF m 32 (Sh9 dg x (x - (53 : Int32)) (mant mm)) [(.int ((x - (53 : Int32)) - (1 : Int32))), (.ref dg)]) (fun t k => XS.lstoreN X26.here hx rfl (B d15_27) rfl (l' := (Sh9 dg x (x - (53 : Int32)) (mant mm))) rfl (XS.aloadN X26.here hx rfl (B d15_28) rfl rfl (XS.iloadN X26.here hx rfl (B d15_29) rfl (XS.iconst X26.here hx rfl (B d15_30) (XS.isub X26.here hx rfl (B d15_31) rfl k))))) ?_
 obtain ⟨_, T27, L27, X27, hQ27, st27⟩ := own_callS X26 hx hZ hown (y := Y17) (ww hw 75 rfl) (ww hw 76 rfl) (ww hw 2 rfl) (ww hw 77 rfl) (by decide) 0 (rm17 l Z a0 hw dg ((x - (53 : Int32)) - (1 : Int32)) kdg mm h0 n0  P0     (own_nbt hN)) (by decide) (by decide) e26 (by decide) (by decide) (g := (mkF m 32 (Sh9 dg x (x - (53 : Int32)) (mant mm)) [(.int ((x - (53 : Int32)) - (1 : Int32))), (.ref dg)])) rfl (by rw [hml]; rfl) (argsL := [(.ref dg), (.int ((x - (53 : Int32)) - (1 : Int32)))]) (rest := []) (lenOf pd_285bJI29Z rfl) rfl (Nat.le_of_eq rfl) (B d15_32)
 obtain ⟨rfl, N27q, e27⟩ := hQ27
 have N27 := Fr.app N26 N27q
 refine GoW.sg (mkF m 35 (Sh9 dg x (x - (53 : Int32)) (mant mm)) [(.int 0)]) (fun t k => st27 t k) ?_
 refine GoW.sg (mkF m 82 (Sh9 dg x (x - (53 : Int32)) (mant mm)) [(.long (((Int32.toInt64 (x - (53 : Int32))) <<< ((52 : Int32) &&& 0x3f).toInt64) + (mant mm)))]) (fun t k => XS.ifYes X27.here hx rfl (pc0 := 35) (pc' := 75) rfl (B d15_35) rfl (by decide) (by decide) (by decide) (XS.iloadN X27.here hx rfl (B d15_75) rfl (XS.i2l X27.here hx rfl (B d15_76) rfl (XS.bipush X27.here hx rfl (B d15_77) (XS.lshl X27.here hx rfl (B d15_79) rfl (XS.lloadN X27.here hx rfl (B d15_80) rfl (XS.ladd X27.here hx rfl (B d15_81) rfl k))))))) ?_
 rw [show (((Int32.toInt64 (x - (53 : Int32))) <<< ((52 : Int32) &&& 0x3f).toInt64) + (mant mm)) = (lb mm) from own_near hN]
 show GoW p e below s (Q15 Z dg x kdg mm h0 n0) 0 0 (T27.setTop (mkF m 82 (Sh9 dg x (x - (53 : Int32)) (mant mm)) [(.long (lb mm))]))
 refine GoW.retL X27 hx Bd.returns (B d15_82) Bd.notSynchronized ?_ (by decide) (by decide)
 rw [e27]
 exact ⟨rfl, N27, rfl⟩
def Q12 (Z : State) (a1 : Addr) (su : Int32) (dg a2 : Addr) (ka2 kdg : ClassId) (fx : Nat → Int64) (ge : Nat → Int64) (bu : Nat) (sx : Int64) (h0 : Heap) (n0 : Nat) (v : Option Value) (h : Heap) (L : List Loc) : Prop := ∃ gz : Nat → Int64, v = some (.double (FP.l2d sx)) ∧ Fr n0 L ∧ (Keep h0 h [dg]) ∧ (Lon Z h dg kdg (36 : Int32) gz)
theorem rm12 (l : Launch) (Z : State) (a0 : Array Value) (hw : HW a0 Z) (a1 : Addr) (su : Int32) (dg a2 : Addr) (ka2 kdg : ClassId) (fx : Nat → Int64) (ge : Nat → Int64) (bu : Nat) (sx : Int64) (h0 : Heap) (n0 : Nat) (P0 : Exa Z h0 a1 "com/example/nearterm/nearterm/embedding/ExactSums") (P1 : Fld Z h0 a1 "com/example/nearterm/nearterm/embedding/ExactSums" "limbs" "[J" (.ref a2)) (P2 : Lon Z h0 a2 ka2 (72 : Int32) fx) (P3 : Lon Z h0 dg kdg (36 : Int32) ge) (g_dg : n0 ≤ dg) (ne_a1_dg : a1 ≠ dg) (ne_a2_dg : a2 ≠ dg) (hb : Bas su bu) (hS : SumOK fx bu sx) :
  MM l Z Y12 prog_7_method_14_code 11 (some .double) 2 0 0 34 #[(.ref a1), (.int su), (.ref dg)] h0 (Q12 Z a1 su dg a2 ka2 kdg fx ge bu sx h0 n0) := by
 refine own_start (fun m => (mkF m 0 (Sh10 a1 su dg) [])) (plainFor_of_name pn_com_example_nearterm_nearterm_embedding_ExactSums) (by simp [entryFrame, mkF, argsToLocals, Value.category]) n0 ?_
 intro p e s m below meth c s₁ Bd hx B hml hZ hown hnm X0 e0 N0
 refine GoW.sg (mkF m 13 (Sh12 a1 su dg 0 0) [(.ref a1)]) (fun t k => XS.lconst X0.here hx rfl (B d12_0) (XS.lstoreN X0.here hx rfl (B d12_1) rfl (l' := (Sh11 a1 su dg 0)) rfl (XS.iconst X0.here hx rfl (B d12_2) (XS.istore X0.here hx rfl (B d12_3) rfl (l' := (Sh12 a1 su dg 0 0)) rfl (XS.iload X0.here hx rfl (B d12_5) rfl (XS.bipush X0.here hx rfl (B d12_7) (XS.icmpNo X0.here hx rfl (B d12_9) rfl (by decide) (XS.aloadN X0.here hx rfl (B d12_12) rfl rfl k)))))))) ?_
 obtain ⟨T28, X28, e28, st28⟩ := getF X0 hx hZ hown (host := "") (Or.inl (ww hw 14 rfl)) Via.refl e0 P1 (g := (mkF m 13 (Sh12 a1 su dg 0 0) [(.ref a1)])) rfl rfl (B d12_13)
 refine GoW.sg (mkF m 16 (Sh12 a1 su dg 0 0) [(.ref a2)]) (fun t k => st28 t k) ?_
 refine GoW.sg (mkF m 23 (Sh12 a1 su dg 0 0) [(.int ((su * (36 : Int32)) + (0 : Int32))), (.ref a2)]) (fun t k => XS.iloadN X28.here hx rfl (B d12_16) rfl (XS.bipush X28.here hx rfl (B d12_17) (XS.imul X28.here hx rfl (B d12_19) rfl (XS.iload X28.here hx rfl (B d12_20) rfl (XS.iadd X28.here hx rfl (B d12_22) rfl k))))) ?_
 refine GoW.sg (mkF m 24 (Sh12 a1 su dg 0 0) [(.long (fx (bu + 0)))]) (fun t k => own_ldL X28 hx hZ e28 P2 (i := bu + 0) (own_ixB hb (i := 0) (by decide)) (g := (mkF m 23 (Sh12 a1 su dg 0 0) [(.int ((su * (36 : Int32)) + (0 : Int32))), (.ref a2)])) rfl rfl (B d12_23) t k) ?_
 refine GoW.sg (mkF m 33 (Sh13 a1 su dg 0 0 ((fx (bu + 0)) + (0 : Int64))) [(.long ((fx (bu + 0)) + (0 : Int64))), (.int 0), (.ref dg)]) (fun t k => XS.lloadN X28.here hx rfl (B d12_24) rfl (XS.ladd X28.here hx rfl (B d12_25) rfl (XS.lstore X28.here hx rfl (B d12_26) rfl (l' := (Sh13 a1 su dg 0 0 ((fx (bu + 0)) + (0 : Int64)))) rfl (XS.aloadN X28.here hx rfl (B d12_28) rfl rfl (XS.iload X28.here hx rfl (B d12_29) rfl (XS.lload X28.here hx rfl (B d12_31) rfl k)))))) ?_
 refine GoW.sg (mkF m 36 (Sh13 a1 su dg 0 0 ((fx (bu + 0)) + (0 : Int64))) [(.long 4294967295), (.long ((fx (bu + 0)) + (0 : Int64))), (.int 0), (.ref dg)]) (fun t k => X28.ldc2Long hx hown (mvT hZ (ww hw 43 rfl)) (g := (mkF m 33 (Sh13 a1 su dg 0 0 ((fx (bu + 0)) + (0 : Int64))) [(.long ((fx (bu + 0)) + (0 : Int64))), (.int 0), (.ref dg)])) rfl (B d12_33) t k) ?_
 refine GoW.sg (mkF m 37 (Sh13 a1 su dg 0 0 ((fx (bu + 0)) + (0 : Int64))) [(.long (((fx (bu + 0)) + (0 : Int64)) &&& (4294967295 : Int64))), (.int 0), (.ref dg)]) (fun t k => XS.land X28.here hx rfl (B d12_36) rfl k) ?_
 obtain ⟨T29, h29, X29, e29, W29, M29, st29⟩ := own_stL X28 hx hZ e28 P3 (i := 0) ⟨by decide, rfl, by decide⟩ (g := (mkF m 37 (Sh13 a1 su dg 0 0 ((fx (bu + 0)) + (0 : Int64))) [(.long (((fx (bu + 0)) + (0 : Int64)) &&& (4294967295 : Int64))), (.int 0), (.ref dg)])) rfl rfl (B d12_37)
 have f29_1 := P0.wr W29
 have f29_2 := P1.other W29 (Or.inl ne_a1_dg)
 have f29_3 := P2.other W29 ne_a2_dg
 have f29_4 := (Keep.refl h0 [dg]).wr W29 (Or.inl (List.mem_of_getElem? (i := 0) rfl))
 have N29 := Fr.snoc X29 N0 g_dg
 refine GoW.sg (mkF m 38 (Sh13 a1 su dg 0 0 ((fx (bu + 0)) + (0 : Int64))) []) (fun t k => st29 t k) ?_
 refine GoW.sg (mkF m 5 (Sh13 a1 su dg (((fx (bu + 0)) + (0 : Int64)) >>> ((32 : Int32) &&& 0x3f).toInt64) 1 ((fx (bu + 0)) + (0 : Int64))) []) (fun t k => XS.lload X29.here hx rfl (B d12_38) rfl (XS.bipush X29.here hx rfl (B d12_40) (XS.lshr X29.here hx rfl (B d12_42) rfl (XS.lstoreN X29.here hx rfl (B d12_43) rfl (l' := (Sh13 a1 su dg (((fx (bu + 0)) + (0 : Int64)) >>> ((32 : Int32) &&& 0x3f).toInt64) 0 ((fx (bu + 0)) + (0 : Int64)))) rfl (XS.iinc X29.here hx rfl (B d12_44) rfl (l' := (Sh13 a1 su dg (((fx (bu + 0)) + (0 : Int64)) >>> ((32 : Int32) &&& 0x3f).toInt64) 1 ((fx (bu + 0)) + (0 : Int64)))) rfl (XS.goto X29.here hx rfl (pc0 := 47) (pc' := 5) rfl (B d12_47) (by decide) (by decide) k)))))) ?_
 have J30 : ∀ (d i30 : Nat), i30 + d = 36 → ∀ (Tj30 : State) (Lj30 : List Loc) (hj30 : Heap) (u6 : Int64), Stand p l e ({ frames := 2, cells := 0, slots := 0, locals := 34 } : Room) s m #[(.ref a1), (.int su), (.ref dg)] below meth c Tj30 Lj30 0 0 → Tj30.heap = hj30 → Fr n0 Lj30 → (Exa Z hj30 a1 "com/example/nearterm/nearterm/embedding/ExactSums") → (Fld Z hj30 a1 "com/example/nearterm/nearterm/embedding/ExactSums" "limbs" "[J" (.ref a2)) → (Lon Z hj30 a2 ka2 (72 : Int32) fx) → (Lon Z hj30 dg kdg (36 : Int32) (DD fx bu ge i30)) → (Keep h0 hj30 [dg]) → GoW p e below s (Q12 Z a1 su dg a2 ka2 kdg fx ge bu sx h0 n0) 0 0 (Tj30.setTop (mkF m 5 (Sh13 a1 su dg (CC fx bu i30) (Int32.ofNat i30) u6) [])) := by
  intro d
  induction d with
  | zero =>
   intro i30 hi30 Tj30 Lj30 hj30 u6 Xj30 ej30 Nj30 j30_0 j30_1 j30_2 j30_3 j30_4
   obtain rfl : i30 = 36 := by omega
   show GoW p e below s (Q12 Z a1 su dg a2 ka2 kdg fx ge bu sx h0 n0) 0 0 (Tj30.setTop (mkF m 5 (Sh13 a1 su dg (CC fx bu 36) 36 u6) []))
   refine GoW.sg (mkF m 53 (Sh13 a1 su dg (CC fx bu 36) 36 u6) [(.int (lcmpW (CC fx bu 36) (0 : Int64)))]) (fun t k => XS.iload Xj30.here hx rfl (B d12_5) rfl (XS.bipush Xj30.here hx rfl (B d12_7) (XS.icmpYes Xj30.here hx rfl (pc0 := 9) (pc' := 50) rfl (B d12_9) rfl (by decide) (by decide) (by decide) (XS.lloadN Xj30.here hx rfl (B d12_50) rfl (XS.lconst Xj30.here hx rfl (B d12_51) (XS.lcmp Xj30.here hx rfl (B d12_52) rfl k)))))) ?_
   by_cases c31 : (CC fx bu 36) < (0 : Int64)
   ·refine GoW.sg (mkF m 71 (Sh13 a1 su dg (CC fx bu 36) 1 1) []) (fun t k => XS.ifNo Xj30.here hx rfl (B d12_53) rfl ((if0 _ _).trans (tlt ((lw_lt _ _).mpr c31)).2.1) (XS.iconst Xj30.here hx rfl (B d12_56) (XS.goto Xj30.here hx rfl (pc0 := 57) (pc' := 61) rfl (B d12_57) (by decide) (by decide) (XS.istore Xj30.here hx rfl (B d12_61) rfl (l' := (Sh13 a1 su dg (CC fx bu 36) 1 u6)) rfl (XS.iload Xj30.here hx rfl (B d12_63) rfl (XS.ifNo Xj30.here hx rfl (B d12_65) rfl (by decide) (XS.lconst Xj30.here hx rfl (B d12_68) (XS.lstore Xj30.here hx rfl (B d12_69) rfl (l' := (Sh13 a1 su dg (CC fx bu 36) 1 1)) rfl k)))))))) ?_
    refine GoW.sg (mkF m 84 (Sh14 a1 su dg (CC fx bu 36) 1 1 0) [(.int 0), (.ref dg)]) (fun t k => XS.iconst Xj30.here hx rfl (B d12_71) (XS.istore Xj30.here hx rfl (B d12_72) rfl (l' := (Sh14 a1 su dg (CC fx bu 36) 1 1 0)) rfl (XS.iload Xj30.here hx rfl (B d12_74) rfl (XS.bipush Xj30.here hx rfl (B d12_76) (XS.icmpNo Xj30.here hx rfl (B d12_78) rfl (by decide) (XS.aloadN Xj30.here hx rfl (B d12_81) rfl rfl (XS.iload Xj30.here hx rfl (B d12_82) rfl k))))))) ?_
    refine GoW.sg (mkF m 85 (Sh14 a1 su dg (CC fx bu 36) 1 1 0) [(.long (DD fx bu ge 36 0))]) (fun t k => own_ldL Xj30 hx hZ ej30 j30_3 (i := 0) ⟨by decide, rfl, by decide⟩ (g := (mkF m 84 (Sh14 a1 su dg (CC fx bu 36) 1 1 0) [(.int 0), (.ref dg)])) rfl rfl (B d12_84) t k) ?_
    refine GoW.sg (mkF m 88 (Sh14 a1 su dg (CC fx bu 36) 1 1 0) [(.long (-1)), (.long (DD fx bu ge 36 0))]) (fun t k => Xj30.ldc2Long hx hown (mvT hZ (ww hw 81 rfl)) (g := (mkF m 85 (Sh14 a1 su dg (CC fx bu 36) 1 1 0) [(.long (DD fx bu ge 36 0))])) rfl (B d12_85) t k) ?_
    refine GoW.sg (mkF m 89 (Sh14 a1 su dg (CC fx bu 36) 1 1 0) [(.long ((DD fx bu ge 36 0) ^^^ (-1 : Int64)))]) (fun t k => XS.lxor Xj30.here hx rfl (B d12_88) rfl k) ?_
    refine GoW.sg (mkF m 92 (Sh14 a1 su dg (CC fx bu 36) 1 1 0) [(.long 4294967295), (.long ((DD fx bu ge 36 0) ^^^ (-1 : Int64)))]) (fun t k => Xj30.ldc2Long hx hown (mvT hZ (ww hw 43 rfl)) (g := (mkF m 89 (Sh14 a1 su dg (CC fx bu 36) 1 1 0) [(.long ((DD fx bu ge 36 0) ^^^ (-1 : Int64)))])) rfl (B d12_89) t k) ?_
    refine GoW.sg (mkF m 103 (Sh15 a1 su dg (CC fx bu 36) 1 1 0 ((((DD fx bu ge 36 0) ^^^ (-1 : Int64)) &&& (4294967295 : Int64)) + (1 : Int64))) [(.long ((((DD fx bu ge 36 0) ^^^ (-1 : Int64)) &&& (4294967295 : Int64)) + (1 : Int64))), (.int 0), (.ref dg)]) (fun t k => XS.land Xj30.here hx rfl (B d12_92) rfl (XS.lload Xj30.here hx rfl (B d12_93) rfl (XS.ladd Xj30.here hx rfl (B d12_95) rfl (XS.lstore Xj30.here hx rfl (B d12_96) rfl (l' := (Sh15 a1 su dg (CC fx bu 36) 1 1 0 ((((DD fx bu ge 36 0) ^^^ (-1 : Int64)) &&& (4294967295 : Int64)) + (1 : Int64)))) rfl (XS.aloadN Xj30.here hx rfl (B d12_98) rfl rfl (XS.iload Xj30.here hx rfl (B d12_99) rfl (XS.lload Xj30.here hx rfl (B d12_101) rfl k))))))) ?_
    refine GoW.sg (mkF m 106 (Sh15 a1 su dg (CC fx bu 36) 1 1 0 ((((DD fx bu ge 36 0) ^^^ (-1 : Int64)) &&& (4294967295 : Int64)) + (1 : Int64))) [(.long 4294967295), (.long ((((DD fx bu ge 36 0) ^^^ (-1 : Int64)) &&& (4294967295 : Int64)) + (1 : Int64))), (.int 0), (.ref dg)]) (fun t k => Xj30.ldc2Long hx hown (mvT hZ (ww hw 43 rfl)) (g := (mkF m 103 (Sh15 a1 su dg (CC fx bu 36) 1 1 0 ((((DD fx bu ge 36 0) ^^^ (-1 : Int64)) &&& (4294967295 : Int64)) + (1 : Int64))) [(.long ((((DD fx bu ge 36 0) ^^^ (-1 : Int64)) &&& (4294967295 : Int64)) + (1 : Int64))), (.int 0), (.ref dg)])) rfl (B d12_103) t k) ?_
    refine GoW.sg (mkF m 107 (Sh15 a1 su dg (CC fx bu 36) 1 1 0 ((((DD fx bu ge 36 0) ^^^ (-1 : Int64)) &&& (4294967295 : Int64)) + (1 : Int64))) [(.long (((((DD fx bu ge 36 0) ^^^ (-1 : Int64)) &&& (4294967295 : Int64)) + (1 : Int64)) &&& (4294967295 : Int64))), (.int 0), (.ref dg)]) (fun t k => XS.land Xj30.here hx rfl (B d12_106) rfl k) ?_
    obtain ⟨T32, h32, X32, e32, W32, M32, st32⟩ := own_stL Xj30 hx hZ ej30 j30_3 (i := 0) ⟨by decide, rfl, by decide⟩ (g := (mkF m 107 (Sh15 a1 su dg (CC fx bu 36) 1 1 0 ((((DD fx bu ge 36 0) ^^^ (-1 : Int64)) &&& (4294967295 : Int64)) + (1 : Int64))) [(.long (((((DD fx bu ge 36 0) ^^^ (-1 : Int64)) &&& (4294967295 : Int64)) + (1 : Int64)) &&& (4294967295 : Int64))), (.int 0), (.ref dg)])) rfl rfl (B d12_107)
    have f32_5 := j30_0.wr W32
    have f32_6 := j30_1.other W32 (Or.inl ne_a1_dg)
    have f32_7 := j30_2.other W32 ne_a2_dg
    have f32_8 := j30_4.wr W32 (Or.inl (List.mem_of_getElem? (i := 0) rfl))
    have N32 := Fr.snoc X32 Nj30 g_dg
    refine GoW.sg (mkF m 108 (Sh15 a1 su dg (CC fx bu 36) 1 1 0 ((((DD fx bu ge 36 0) ^^^ (-1 : Int64)) &&& (4294967295 : Int64)) + (1 : Int64))) []) (fun t k => st32 t k) ?_
    refine GoW.sg (mkF m 74 (Sh15 a1 su dg (CC fx bu 36) 1 ((((((DD fx bu ge 36 0) ^^^ (-1 : Int64)) &&& (4294967295 : Int64)) + (1 : Int64)).toUInt64 >>> ((32 : Int32) &&& 0x3f).toInt64.toUInt64).toInt64) 1 ((((DD fx bu ge 36 0) ^^^ (-1 : Int64)) &&& (4294967295 : Int64)) + (1 : Int64))) []) (fun t k => XS.lload X32.here hx rfl (B d12_108) rfl (XS.bipush X32.here hx rfl (B d12_110) (XS.lushr X32.here hx rfl (B d12_112) rfl (XS.lstore X32.here hx rfl (B d12_113) rfl (l' := (Sh15 a1 su dg (CC fx bu 36) 1 ((((((DD fx bu ge 36 0) ^^^ (-1 : Int64)) &&& (4294967295 : Int64)) + (1 : Int64)).toUInt64 >>> ((32 : Int32) &&& 0x3f).toInt64.toUInt64).toInt64) 0 ((((DD fx bu ge 36 0) ^^^ (-1 : Int64)) &&& (4294967295 : Int64)) + (1 : Int64)))) rfl (XS.iinc X32.here hx rfl (B d12_115) rfl (l' := (Sh15 a1 su dg (CC fx bu 36) 1 ((((((DD fx bu ge 36 0) ^^^ (-1 : Int64)) &&& (4294967295 : Int64)) + (1 : Int64)).toUInt64 >>> ((32 : Int32) &&& 0x3f).toInt64.toUInt64).toInt64) 1 ((((DD fx bu ge 36 0) ^^^ (-1 : Int64)) &&& (4294967295 : Int64)) + (1 : Int64)))) rfl (XS.goto X32.here hx rfl (pc0 := 118) (pc' := 74) rfl (B d12_118) (by decide) (by decide) k)))))) ?_
    have J33 : ∀ (d i33 : Nat), i33 + d = 36 → ∀ (Tj33 : State) (Lj33 : List Loc) (hj33 : Heap) (u9 : Int64), Stand p l e ({ frames := 2, cells := 0, slots := 0, locals := 34 } : Room) s m #[(.ref a1), (.int su), (.ref dg)] below meth c Tj33 Lj33 0 0 → Tj33.heap = hj33 → Fr n0 Lj33 → (Exa Z hj33 a1 "com/example/nearterm/nearterm/embedding/ExactSums") → (Fld Z hj33 a1 "com/example/nearterm/nearterm/embedding/ExactSums" "limbs" "[J" (.ref a2)) → (Lon Z hj33 a2 ka2 (72 : Int32) fx) → (Lon Z hj33 dg kdg (36 : Int32) (BD (DD fx bu ge 36) i33)) → (Keep h0 hj33 [dg]) → GoW p e below s (Q12 Z a1 su dg a2 ka2 kdg fx ge bu sx h0 n0) 0 0 (Tj33.setTop (mkF m 74 (Sh15 a1 su dg (CC fx bu 36) 1 (BB (DD fx bu ge 36) i33) (Int32.ofNat i33) u9) [])) := by
     intro d
     induction d with
     | zero =>
      intro i33 hi33 Tj33 Lj33 hj33 u9 Xj33 ej33 Nj33 j33_0 j33_1 j33_2 j33_3 j33_4
      obtain rfl : i33 = 36 := by omega
      show GoW p e below s (Q12 Z a1 su dg a2 ka2 kdg fx ge bu sx h0 n0) 0 0 (Tj33.setTop (mkF m 74 (Sh15 a1 su dg (CC fx bu 36) 1 (BB (DD fx bu ge 36) 36) 36 u9) []))
      refine GoW.sg (mkF m 121 (Sh15 a1 su dg (CC fx bu 36) 1 (BB (DD fx bu ge 36) 36) 36 u9) []) (fun t k => XS.iload Xj33.here hx rfl (B d12_74) rfl (XS.bipush Xj33.here hx rfl (B d12_76) (XS.icmpYes Xj33.here hx rfl (pc0 := 78) (pc' := 121) rfl (B d12_78) rfl (by decide) (by decide) (by decide) k))) ?_
      obtain ⟨mm, hm, hs, hd⟩ := own_ng hS c31 (g := ge)
      have M34 : Lon Z hj33 dg kdg (36 : Int32) (dig mm) := j33_3.cong (fun t ht => hd t ht)
      refine GoW.sg (mkF m 133 (Sh16 a1 su dg (CC fx bu 36) 1 35 36 u9) [(.int 35), (.ref dg)]) (fun t k => XS.bipush Xj33.here hx rfl (B d12_121) (XS.istore Xj33.here hx rfl (B d12_123) rfl (l' := (Sh16 a1 su dg (CC fx bu 36) 1 35 36 u9)) rfl (XS.iload Xj33.here hx rfl (B d12_125) rfl (XS.ifNo Xj33.here hx rfl (B d12_127) rfl (by decide) (XS.aloadN Xj33.here hx rfl (B d12_130) rfl rfl (XS.iload Xj33.here hx rfl (B d12_131) rfl k)))))) ?_
      refine GoW.sg (mkF m 134 (Sh16 a1 su dg (CC fx bu 36) 1 35 36 u9) [(.long (dig mm 35))]) (fun t k => own_ldL Xj33 hx hZ ej33 M34 (i := 35) ⟨by decide, rfl, by decide⟩ (g := (mkF m 133 (Sh16 a1 su dg (CC fx bu 36) 1 35 36 u9) [(.int 35), (.ref dg)])) rfl rfl (B d12_133) t k) ?_
      rw [show (dig mm 35) = (0 : Int64) from rfl]
      show GoW p e below s (Q12 Z a1 su dg a2 ka2 kdg fx ge bu sx h0 n0) 0 0 (Tj33.setTop (mkF m 134 (Sh16 a1 su dg (CC fx bu 36) 1 35 36 u9) [(.long 0)]))
      refine GoW.sg (mkF m 131 (Sh16 a1 su dg (CC fx bu 36) 1 34 36 u9) [(.ref dg)]) (fun t k => XS.lconst Xj33.here hx rfl (B d12_134) (XS.lcmp Xj33.here hx rfl (B d12_135) rfl (XS.ifNo Xj33.here hx rfl (B d12_136) rfl (by decide) (XS.iinc Xj33.here hx rfl (B d12_139) rfl (l' := (Sh16 a1 su dg (CC fx bu 36) 1 34 36 u9)) rfl (XS.goto Xj33.here hx rfl (pc0 := 142) (pc' := 125) rfl (B d12_142) (by decide) (by decide) (XS.iload Xj33.here hx rfl (B d12_125) rfl (XS.ifNo Xj33.here hx rfl (B d12_127) rfl (by decide) (XS.aloadN Xj33.here hx rfl (B d12_130) rfl rfl k)))))))) ?_
      refine GoW.sg (mkF m 133 (Sh16 a1 su dg (CC fx bu 36) 1 34 36 u9) [(.int 34), (.ref dg)]) (fun t k => XS.iload Xj33.here hx rfl (B d12_131) rfl k) ?_
      refine GoW.sg (mkF m 134 (Sh16 a1 su dg (CC fx bu 36) 1 34 36 u9) [(.long (dig mm 34))]) (fun t k => own_ldL Xj33 hx hZ ej33 M34 (i := 34) ⟨by decide, rfl, by decide⟩ (g := (mkF m 133 (Sh16 a1 su dg (CC fx bu 36) 1 34 36 u9) [(.int 34), (.ref dg)])) rfl rfl (B d12_133) t k) ?_
      refine GoW.sg (mkF m 136 (Sh16 a1 su dg (CC fx bu 36) 1 34 36 u9) [(.int (lcmpW (dig mm 34) (0 : Int64)))]) (fun t k => XS.lconst Xj33.here hx rfl (B d12_134) (XS.lcmp Xj33.here hx rfl (B d12_135) rfl k)) ?_
      by_cases c35 : (dig mm 34) = (0 : Int64)
      ·refine GoW.sg (mkF m 133 (Sh16 a1 su dg (CC fx bu 36) 1 33 36 u9) [(.int 33), (.ref dg)]) (fun t k => XS.ifNo Xj33.here hx rfl (B d12_136) rfl ((if0 _ _).trans (teq ((lw_eq _ _).mpr c35)).2) (XS.iinc Xj33.here hx rfl (B d12_139) rfl (l' := (Sh16 a1 su dg (CC fx bu 36) 1 33 36 u9)) rfl (XS.goto Xj33.here hx rfl (pc0 := 142) (pc' := 125) rfl (B d12_142) (by decide) (by decide) (XS.iload Xj33.here hx rfl (B d12_125) rfl (XS.ifNo Xj33.here hx rfl (B d12_127) rfl (by decide) (XS.aloadN Xj33.here hx rfl (B d12_130) rfl rfl (XS.iload Xj33.here hx rfl (B d12_131) rfl k))))))) ?_
       refine GoW.sg (mkF m 134 (Sh16 a1 su dg (CC fx bu 36) 1 33 36 u9) [(.long (dig mm 33))]) (fun t k => own_ldL Xj33 hx hZ ej33 M34 (i := 33) ⟨by decide, rfl, by decide⟩ (g := (mkF m 133 (Sh16 a1 su dg (CC fx bu 36) 1 33 36 u9) [(.int 33), (.ref dg)])) rfl rfl (B d12_133) t k) ?_
       refine GoW.sg (mkF m 136 (Sh16 a1 su dg (CC fx bu 36) 1 33 36 u9) [(.int (lcmpW (dig mm 33) (0 : Int64)))]) (fun t k => XS.lconst Xj33.here hx rfl (B d12_134) (XS.lcmp Xj33.here hx rfl (B d12_135) rfl k)) ?_
       by_cases c36 : (dig mm 33) = (0 : Int64)
       ·refine GoW.sg (mkF m 125 (Sh16 a1 su dg (CC fx bu 36) 1 32 36 u9) []) (fun t k => XS.ifNo Xj33.here hx rfl (B d12_136) rfl ((if0 _ _).trans (teq ((lw_eq _ _).mpr c36)).2) (XS.iinc Xj33.here hx rfl (B d12_139) rfl (l' := (Sh16 a1 su dg (CC fx bu 36) 1 32 36 u9)) rfl (XS.goto Xj33.here hx rfl (pc0 := 142) (pc' := 125) rfl (B d12_142) (by decide) (by decide) k))) ?_
        exact absurd (own_m0 c36 c35 hm.2) (Nat.ne_of_gt hm.1)
       ·refine GoW.sg (mkF m 157 (Sh16 a1 su dg (CC fx bu 36) 1 33 36 u9) [(.int 33), (.int 32), (.ref dg)]) (fun t k => XS.ifYes Xj33.here hx rfl (pc0 := 136) (pc' := 145) rfl (B d12_136) rfl ((if0 _ _).trans (feq (mt (lw_eq _ _).mp c36)).2) (by decide) (by decide) (XS.iload Xj33.here hx rfl (B d12_145) rfl (XS.ifYes Xj33.here hx rfl (pc0 := 147) (pc' := 152) rfl (B d12_147) rfl (by decide) (by decide) (by decide) (XS.aloadN Xj33.here hx rfl (B d12_152) rfl rfl (XS.bipush Xj33.here hx rfl (B d12_153) (XS.iload Xj33.here hx rfl (B d12_155) rfl k)))))) ?_
        refine GoW.st (fun t k => XS.imul Xj33.here hx rfl (B d12_157) rfl k) ?_
        rw [show ((32 : Int32) * (33 : Int32)) = (1056 : Int32) from by decide]
        show GoW p e below s (Q12 Z a1 su dg a2 ka2 kdg fx ge bu sx h0 n0) 0 0 (Tj33.setTop (mkF m 158 (Sh16 a1 su dg (CC fx bu 36) 1 33 36 u9) [(.int 1056), (.ref dg)]))
        refine GoW.sg (mkF m 160 (Sh16 a1 su dg (CC fx bu 36) 1 33 36 u9) [(.int 64), (.int 1056), (.ref dg)]) (fun t k => XS.bipush Xj33.here hx rfl (B d12_158) k) ?_
        refine GoW.st (fun t k => XS.iadd Xj33.here hx rfl (B d12_160) rfl k) ?_
        rw [show ((1056 : Int32) + (64 : Int32)) = (1120 : Int32) from by decide]
        show GoW p e below s (Q12 Z a1 su dg a2 ka2 kdg fx ge bu sx h0 n0) 0 0 (Tj33.setTop (mkF m 161 (Sh16 a1 su dg (CC fx bu 36) 1 33 36 u9) [(.int 1120), (.ref dg)]))
        refine GoW.sg (mkF m 164 (Sh16 a1 su dg (CC fx bu 36) 1 33 36 u9) [(.int 33), (.ref dg), (.int 1120), (.ref dg)]) (fun t k => XS.aloadN Xj33.here hx rfl (B d12_161) rfl rfl (XS.iload Xj33.here hx rfl (B d12_162) rfl k)) ?_
        refine GoW.sg (mkF m 165 (Sh16 a1 su dg (CC fx bu 36) 1 33 36 u9) [(.long (dig mm 33)), (.int 1120), (.ref dg)]) (fun t k => own_ldL Xj33 hx hZ ej33 M34 (i := 33) ⟨by decide, rfl, by decide⟩ (g := (mkF m 164 (Sh16 a1 su dg (CC fx bu 36) 1 33 36 u9) [(.int 33), (.ref dg), (.int 1120), (.ref dg)])) rfl rfl (B d12_164) t k) ?_
        obtain ⟨_, T37, L37, X37, hQ37, st37⟩ := own_callS Xj33 hx hZ hown (y := Y13) (ww hw 59 rfl) (ww hw 60 rfl) (ww hw 61 rfl) (ww hw 62 rfl) (by decide) 2 (rm13 l Z a0 hw (dig mm 33) hj33 n0) (by decide) (by decide) ej33 (by decide) (by decide) (g := (mkF m 165 (Sh16 a1 su dg (CC fx bu 36) 1 33 36 u9) [(.long (dig mm 33)), (.int 1120), (.ref dg)])) rfl (by rw [hml]; rfl) (argsL := [(.long (dig mm 33))]) (rest := [(.int (1120 : Int32)), (.ref dg)]) (lenOf pd_28J29I rfl) rfl (Nat.le_of_eq rfl) (B d12_165)
        obtain ⟨rfl, N37q, e37⟩ := hQ37
        have N37 := Fr.app Nj33 N37q
        refine GoW.sg (mkF m 168 (Sh16 a1 su dg (CC fx bu 36) 1 33 36 u9) [(.int (F13 (dig mm 33))), (.int 1120), (.ref dg)]) (fun t k => st37 t k) ?_
        refine GoW.sg (mkF m 169 (Sh16 a1 su dg (CC fx bu 36) 1 33 36 u9) [(.int ((1120 : Int32) - (F13 (dig mm 33)))), (.ref dg)]) (fun t k => XS.isub X37.here hx rfl (B d12_168) rfl k) ?_
        obtain ⟨_, T38, L38, X38, hQ38, st38⟩ := own_callS X37 hx hZ hown (y := Y15) (ww hw 68 rfl) (ww hw 69 rfl) (ww hw 2 rfl) (ww hw 70 rfl) (by decide) 0 (rm15 l Z a0 hw dg ((1120 : Int32) - (F13 (dig mm 33))) kdg mm hj33 n0  M34     (own_nr33 hm.2 c35 c36)) (by decide) (by decide) e37 (by decide) (by decide) (g := (mkF m 169 (Sh16 a1 su dg (CC fx bu 36) 1 33 36 u9) [(.int ((1120 : Int32) - (F13 (dig mm 33)))), (.ref dg)])) rfl (by rw [hml]; rfl) (argsL := [(.ref dg), (.int ((1120 : Int32) - (F13 (dig mm 33))))]) (rest := []) (lenOf pd_285bJI29J rfl) rfl (Nat.le_of_eq rfl) (B d12_169)
        obtain ⟨rfl, N38q, e38⟩ := hQ38
        have N38 := Fr.app N37 N38q
        refine GoW.sg (mkF m 172 (Sh16 a1 su dg (CC fx bu 36) 1 33 36 u9) [(.long (lb mm))]) (fun t k => st38 t k) ?_
        obtain ⟨vm39, X39, st39⟩ := X38.longBitsToDouble hx hown (mvT hZ (ww hw 78 rfl)) (mvT hZ (ww hw 80 rfl)) (mvT hZ (ww hw 79 rfl)) (mvT hZ (ww hw 23 rfl)) (g := (mkF m 172 (Sh16 a1 su dg (CC fx bu 36) 1 33 36 u9) [(.long (lb mm))])) rfl (by rw [hml]; rfl) (own_hv hm.2) rfl (B d12_172) (by decide) (by show 2 * 0 + 0 + (nativeFrameWords "java/lang/Double" "longBitsToDouble" 2 + 11) ≤ _; decide +kernel)
        have e39 : (T38.setVm vm39).heap = hj33 := e38
        refine GoW.sg (mkF m 175 (Sh16 a1 su dg (CC fx bu 36) 1 33 36 u9) [(.double ((lb mm).toUInt64))]) (fun t k => st39 t k) ?_
        rw [show ((lb mm).toUInt64) = (FP.l2d (Int64.ofNat mm)) from rfl]
        show GoW p e below s (Q12 Z a1 su dg a2 ka2 kdg fx ge bu sx h0 n0) 0 0 ((T38.setVm vm39).setTop (mkF m 175 (Sh16 a1 su dg (CC fx bu 36) 1 33 36 u9) [(.double (FP.l2d (Int64.ofNat mm)))]))
        refine GoW.sg (mkF m 190 (Sh17 a1 su dg (CC fx bu 36) 1 33 (FP.l2d (Int64.ofNat mm)) u9) [(.double (FP.l2d sx))]) (fun t k => XS.dstore X39.here hx rfl (B d12_175) rfl (l' := (Sh17 a1 su dg (CC fx bu 36) 1 33 (FP.l2d (Int64.ofNat mm)) u9)) rfl (XS.iload X39.here hx rfl (B d12_177) rfl (XS.ifNo X39.here hx rfl (B d12_179) rfl (by decide) (XS.dload X39.here hx rfl (B d12_182) rfl (XS.dnegS X39.here hx rfl (B d12_184) rfl (v := (FP.l2d sx)) (own_dn hs hm) (XS.goto X39.here hx rfl (pc0 := 185) (pc' := 190) rfl (B d12_185) (by decide) (by decide) k)))))) ?_
        refine GoW.retD X39 hx Bd.returns (B d12_190) Bd.notSynchronized ?_ (by decide) (by decide)
        rw [e39]
        exact ⟨(dig mm), rfl, N38, j33_4, M34⟩
      ·refine GoW.sg (mkF m 157 (Sh16 a1 su dg (CC fx bu 36) 1 34 36 u9) [(.int 34), (.int 32), (.ref dg)]) (fun t k => XS.ifYes Xj33.here hx rfl (pc0 := 136) (pc' := 145) rfl (B d12_136) rfl ((if0 _ _).trans (feq (mt (lw_eq _ _).mp c35)).2) (by decide) (by decide) (XS.iload Xj33.here hx rfl (B d12_145) rfl (XS.ifYes Xj33.here hx rfl (pc0 := 147) (pc' := 152) rfl (B d12_147) rfl (by decide) (by decide) (by decide) (XS.aloadN Xj33.here hx rfl (B d12_152) rfl rfl (XS.bipush Xj33.here hx rfl (B d12_153) (XS.iload Xj33.here hx rfl (B d12_155) rfl k)))))) ?_
       refine GoW.st (fun t k => XS.imul Xj33.here hx rfl (B d12_157) rfl k) ?_
       rw [show ((32 : Int32) * (34 : Int32)) = (1088 : Int32) from by decide]
       show GoW p e below s (Q12 Z a1 su dg a2 ka2 kdg fx ge bu sx h0 n0) 0 0 (Tj33.setTop (mkF m 158 (Sh16 a1 su dg (CC fx bu 36) 1 34 36 u9) [(.int 1088), (.ref dg)]))
       refine GoW.sg (mkF m 160 (Sh16 a1 su dg (CC fx bu 36) 1 34 36 u9) [(.int 64), (.int 1088), (.ref dg)]) (fun t k => XS.bipush Xj33.here hx rfl (B d12_158) k) ?_
       refine GoW.st (fun t k => XS.iadd Xj33.here hx rfl (B d12_160) rfl k) ?_
       rw [show ((1088 : Int32) + (64 : Int32)) = (1152 : Int32) from by decide]
       show GoW p e below s (Q12 Z a1 su dg a2 ka2 kdg fx ge bu sx h0 n0) 0 0 (Tj33.setTop (mkF m 161 (Sh16 a1 su dg (CC fx bu 36) 1 34 36 u9) [(.int 1152), (.ref dg)]))
       refine GoW.sg (mkF m 164 (Sh16 a1 su dg (CC fx bu 36) 1 34 36 u9) [(.int 34), (.ref dg), (.int 1152), (.ref dg)]) (fun t k => XS.aloadN Xj33.here hx rfl (B d12_161) rfl rfl (XS.iload Xj33.here hx rfl (B d12_162) rfl k)) ?_
       refine GoW.sg (mkF m 165 (Sh16 a1 su dg (CC fx bu 36) 1 34 36 u9) [(.long (dig mm 34)), (.int 1152), (.ref dg)]) (fun t k => own_ldL Xj33 hx hZ ej33 M34 (i := 34) ⟨by decide, rfl, by decide⟩ (g := (mkF m 164 (Sh16 a1 su dg (CC fx bu 36) 1 34 36 u9) [(.int 34), (.ref dg), (.int 1152), (.ref dg)])) rfl rfl (B d12_164) t k) ?_
       obtain ⟨_, T40, L40, X40, hQ40, st40⟩ := own_callS Xj33 hx hZ hown (y := Y13) (ww hw 59 rfl) (ww hw 60 rfl) (ww hw 61 rfl) (ww hw 62 rfl) (by decide) 2 (rm13 l Z a0 hw (dig mm 34) hj33 n0) (by decide) (by decide) ej33 (by decide) (by decide) (g := (mkF m 165 (Sh16 a1 su dg (CC fx bu 36) 1 34 36 u9) [(.long (dig mm 34)), (.int 1152), (.ref dg)])) rfl (by rw [hml]; rfl) (argsL := [(.long (dig mm 34))]) (rest := [(.int (1152 : Int32)), (.ref dg)]) (lenOf pd_28J29I rfl) rfl (Nat.le_of_eq rfl) (B d12_165)
       obtain ⟨rfl, N40q, e40⟩ := hQ40
       have N40 := Fr.app Nj33 N40q
       refine GoW.sg (mkF m 168 (Sh16 a1 su dg (CC fx bu 36) 1 34 36 u9) [(.int (F13 (dig mm 34))), (.int 1152), (.ref dg)]) (fun t k => st40 t k) ?_
       refine GoW.sg (mkF m 169 (Sh16 a1 su dg (CC fx bu 36) 1 34 36 u9) [(.int ((1152 : Int32) - (F13 (dig mm 34)))), (.ref dg)]) (fun t k => XS.isub X40.here hx rfl (B d12_168) rfl k) ?_
       obtain ⟨_, T41, L41, X41, hQ41, st41⟩ := own_callS X40 hx hZ hown (y := Y15) (ww hw 68 rfl) (ww hw 69 rfl) (ww hw 2 rfl) (ww hw 70 rfl) (by decide) 0 (rm15 l Z a0 hw dg ((1152 : Int32) - (F13 (dig mm 34))) kdg mm hj33 n0  M34     (own_nr34 hm.2 c35)) (by decide) (by decide) e40 (by decide) (by decide) (g := (mkF m 169 (Sh16 a1 su dg (CC fx bu 36) 1 34 36 u9) [(.int ((1152 : Int32) - (F13 (dig mm 34)))), (.ref dg)])) rfl (by rw [hml]; rfl) (argsL := [(.ref dg), (.int ((1152 : Int32) - (F13 (dig mm 34))))]) (rest := []) (lenOf pd_285bJI29J rfl) rfl (Nat.le_of_eq rfl) (B d12_169)
       obtain ⟨rfl, N41q, e41⟩ := hQ41
       have N41 := Fr.app N40 N41q
       refine GoW.sg (mkF m 172 (Sh16 a1 su dg (CC fx bu 36) 1 34 36 u9) [(.long (lb mm))]) (fun t k => st41 t k) ?_
       obtain ⟨vm42, X42, st42⟩ := X41.longBitsToDouble hx hown (mvT hZ (ww hw 78 rfl)) (mvT hZ (ww hw 80 rfl)) (mvT hZ (ww hw 79 rfl)) (mvT hZ (ww hw 23 rfl)) (g := (mkF m 172 (Sh16 a1 su dg (CC fx bu 36) 1 34 36 u9) [(.long (lb mm))])) rfl (by rw [hml]; rfl) (own_hv hm.2) rfl (B d12_172) (by decide) (by show 2 * 0 + 0 + (nativeFrameWords "java/lang/Double" "longBitsToDouble" 2 + 11) ≤ _; decide +kernel)
       have e42 : (T41.setVm vm42).heap = hj33 := e41
       refine GoW.sg (mkF m 175 (Sh16 a1 su dg (CC fx bu 36) 1 34 36 u9) [(.double ((lb mm).toUInt64))]) (fun t k => st42 t k) ?_
       rw [show ((lb mm).toUInt64) = (FP.l2d (Int64.ofNat mm)) from rfl]
       show GoW p e below s (Q12 Z a1 su dg a2 ka2 kdg fx ge bu sx h0 n0) 0 0 ((T41.setVm vm42).setTop (mkF m 175 (Sh16 a1 su dg (CC fx bu 36) 1 34 36 u9) [(.double (FP.l2d (Int64.ofNat mm)))]))
       refine GoW.sg (mkF m 190 (Sh17 a1 su dg (CC fx bu 36) 1 34 (FP.l2d (Int64.ofNat mm)) u9) [(.double (FP.l2d sx))]) (fun t k => XS.dstore X42.here hx rfl (B d12_175) rfl (l' := (Sh17 a1 su dg (CC fx bu 36) 1 34 (FP.l2d (Int64.ofNat mm)) u9)) rfl (XS.iload X42.here hx rfl (B d12_177) rfl (XS.ifNo X42.here hx rfl (B d12_179) rfl (by decide) (XS.dload X42.here hx rfl (B d12_182) rfl (XS.dnegS X42.here hx rfl (B d12_184) rfl (v := (FP.l2d sx)) (own_dn hs hm) (XS.goto X42.here hx rfl (pc0 := 185) (pc' := 190) rfl (B d12_185) (by decide) (by decide) k)))))) ?_
       refine GoW.retD X42 hx Bd.returns (B d12_190) Bd.notSynchronized ?_ (by decide) (by decide)
       rw [e42]
       exact ⟨(dig mm), rfl, N41, j33_4, M34⟩
     | succ d ih33 =>
      intro i33 hi33 Tj33 Lj33 hj33 u9 Xj33 ej33 Nj33 j33_0 j33_1 j33_2 j33_3 j33_4
      have hl33 : i33 < 36 := by omega
      have hc33 : (Int32.ofNat i33) < (36 : Int32) := own_ltN (n := 36) (by decide) hl33
      refine GoW.sg (mkF m 84 (Sh15 a1 su dg (CC fx bu 36) 1 (BB (DD fx bu ge 36) i33) (Int32.ofNat i33) u9) [(.int (Int32.ofNat i33)), (.ref dg)]) (fun t k => XS.iload Xj33.here hx rfl (B d12_74) rfl (XS.bipush Xj33.here hx rfl (B d12_76) (XS.icmpNo Xj33.here hx rfl (B d12_78) rfl (tlt hc33).2.1 (XS.aloadN Xj33.here hx rfl (B d12_81) rfl rfl (XS.iload Xj33.here hx rfl (B d12_82) rfl k))))) ?_
      refine GoW.sg (mkF m 85 (Sh15 a1 su dg (CC fx bu 36) 1 (BB (DD fx bu ge 36) i33) (Int32.ofNat i33) u9) [(.long (BD (DD fx bu ge 36) i33 i33))]) (fun t k => own_ldL Xj33 hx hZ ej33 j33_3 (i := i33) (own_ixN (n := 36) rfl (by decide) hl33) (g := (mkF m 84 (Sh15 a1 su dg (CC fx bu 36) 1 (BB (DD fx bu ge 36) i33) (Int32.ofNat i33) u9) [(.int (Int32.ofNat i33)), (.ref dg)])) rfl rfl (B d12_84) t k) ?_
      rw [show (BD (DD fx bu ge 36) i33 i33) = (DD fx bu ge 36 i33) from own_BDi _ _]
      show GoW p e below s (Q12 Z a1 su dg a2 ka2 kdg fx ge bu sx h0 n0) 0 0 (Tj33.setTop (mkF m 85 (Sh15 a1 su dg (CC fx bu 36) 1 (BB (DD fx bu ge 36) i33) (Int32.ofNat i33) u9) [(.long (DD fx bu ge 36 i33))]))
      refine GoW.sg (mkF m 88 (Sh15 a1 su dg (CC fx bu 36) 1 (BB (DD fx bu ge 36) i33) (Int32.ofNat i33) u9) [(.long (-1)), (.long (DD fx bu ge 36 i33))]) (fun t k => Xj33.ldc2Long hx hown (mvT hZ (ww hw 81 rfl)) (g := (mkF m 85 (Sh15 a1 su dg (CC fx bu 36) 1 (BB (DD fx bu ge 36) i33) (Int32.ofNat i33) u9) [(.long (DD fx bu ge 36 i33))])) rfl (B d12_85) t k) ?_
      refine GoW.sg (mkF m 89 (Sh15 a1 su dg (CC fx bu 36) 1 (BB (DD fx bu ge 36) i33) (Int32.ofNat i33) u9) [(.long ((DD fx bu ge 36 i33) ^^^ (-1 : Int64)))]) (fun t k => XS.lxor Xj33.here hx rfl (B d12_88) rfl k) ?_
      refine GoW.sg (mkF m 92 (Sh15 a1 su dg (CC fx bu 36) 1 (BB (DD fx bu ge 36) i33) (Int32.ofNat i33) u9) [(.long 4294967295), (.long ((DD fx bu ge 36 i33) ^^^ (-1 : Int64)))]) (fun t k => Xj33.ldc2Long hx hown (mvT hZ (ww hw 43 rfl)) (g := (mkF m 89 (Sh15 a1 su dg (CC fx bu 36) 1 (BB (DD fx bu ge 36) i33) (Int32.ofNat i33) u9) [(.long ((DD fx bu ge 36 i33) ^^^ (-1 : Int64)))])) rfl (B d12_89) t k) ?_
      refine GoW.sg (mkF m 103 (Sh15 a1 su dg (CC fx bu 36) 1 (BB (DD fx bu ge 36) i33) (Int32.ofNat i33) ((((DD fx bu ge 36 i33) ^^^ (-1 : Int64)) &&& (4294967295 : Int64)) + (BB (DD fx bu ge 36) i33))) [(.long ((((DD fx bu ge 36 i33) ^^^ (-1 : Int64)) &&& (4294967295 : Int64)) + (BB (DD fx bu ge 36) i33))), (.int (Int32.ofNat i33)), (.ref dg)]) (fun t k => XS.land Xj33.here hx rfl (B d12_92) rfl (XS.lload Xj33.here hx rfl (B d12_93) rfl (XS.ladd Xj33.here hx rfl (B d12_95) rfl (XS.lstore Xj33.here hx rfl (B d12_96) rfl (l' := (Sh15 a1 su dg (CC fx bu 36) 1 (BB (DD fx bu ge 36) i33) (Int32.ofNat i33) ((((DD fx bu ge 36 i33) ^^^ (-1 : Int64)) &&& (4294967295 : Int64)) + (BB (DD fx bu ge 36) i33)))) rfl (XS.aloadN Xj33.here hx rfl (B d12_98) rfl rfl (XS.iload Xj33.here hx rfl (B d12_99) rfl (XS.lload Xj33.here hx rfl (B d12_101) rfl k))))))) ?_
      refine GoW.sg (mkF m 106 (Sh15 a1 su dg (CC fx bu 36) 1 (BB (DD fx bu ge 36) i33) (Int32.ofNat i33) ((((DD fx bu ge 36 i33) ^^^ (-1 : Int64)) &&& (4294967295 : Int64)) + (BB (DD fx bu ge 36) i33))) [(.long 4294967295), (.long ((((DD fx bu ge 36 i33) ^^^ (-1 : Int64)) &&& (4294967295 : Int64)) + (BB (DD fx bu ge 36) i33))), (.int (Int32.ofNat i33)), (.ref dg)]) (fun t k => Xj33.ldc2Long hx hown (mvT hZ (ww hw 43 rfl)) (g := (mkF m 103 (Sh15 a1 su dg (CC fx bu 36) 1 (BB (DD fx bu ge 36) i33) (Int32.ofNat i33) ((((DD fx bu ge 36 i33) ^^^ (-1 : Int64)) &&& (4294967295 : Int64)) + (BB (DD fx bu ge 36) i33))) [(.long ((((DD fx bu ge 36 i33) ^^^ (-1 : Int64)) &&& (4294967295 : Int64)) + (BB (DD fx bu ge 36) i33))), (.int (Int32.ofNat i33)), (.ref dg)])) rfl (B d12_103) t k) ?_
      refine GoW.sg (mkF m 107 (Sh15 a1 su dg (CC fx bu 36) 1 (BB (DD fx bu ge 36) i33) (Int32.ofNat i33) ((((DD fx bu ge 36 i33) ^^^ (-1 : Int64)) &&& (4294967295 : Int64)) + (BB (DD fx bu ge 36) i33))) [(.long (((((DD fx bu ge 36 i33) ^^^ (-1 : Int64)) &&& (4294967295 : Int64)) + (BB (DD fx bu ge 36) i33)) &&& (4294967295 : Int64))), (.int (Int32.ofNat i33)), (.ref dg)]) (fun t k => XS.land Xj33.here hx rfl (B d12_106) rfl k) ?_
      obtain ⟨T43, h43, X43, e43, W43, M43, st43⟩ := own_stL Xj33 hx hZ ej33 j33_3 (i := i33) (own_ixN (n := 36) rfl (by decide) hl33) (g := (mkF m 107 (Sh15 a1 su dg (CC fx bu 36) 1 (BB (DD fx bu ge 36) i33) (Int32.ofNat i33) ((((DD fx bu ge 36 i33) ^^^ (-1 : Int64)) &&& (4294967295 : Int64)) + (BB (DD fx bu ge 36) i33))) [(.long (((((DD fx bu ge 36 i33) ^^^ (-1 : Int64)) &&& (4294967295 : Int64)) + (BB (DD fx bu ge 36) i33)) &&& (4294967295 : Int64))), (.int (Int32.ofNat i33)), (.ref dg)])) rfl rfl (B d12_107)
      have f43_9 := j33_0.wr W43
      have f43_10 := j33_1.other W43 (Or.inl ne_a1_dg)
      have f43_11 := j33_2.other W43 ne_a2_dg
      have f43_12 := j33_4.wr W43 (Or.inl (List.mem_of_getElem? (i := 0) rfl))
      have N43 := Fr.snoc X43 Nj33 g_dg
      refine GoW.sg (mkF m 108 (Sh15 a1 su dg (CC fx bu 36) 1 (BB (DD fx bu ge 36) i33) (Int32.ofNat i33) ((((DD fx bu ge 36 i33) ^^^ (-1 : Int64)) &&& (4294967295 : Int64)) + (BB (DD fx bu ge 36) i33))) []) (fun t k => st43 t k) ?_
      refine GoW.sg (mkF m 74 (Sh15 a1 su dg (CC fx bu 36) 1 ((((((DD fx bu ge 36 i33) ^^^ (-1 : Int64)) &&& (4294967295 : Int64)) + (BB (DD fx bu ge 36) i33)).toUInt64 >>> ((32 : Int32) &&& 0x3f).toInt64.toUInt64).toInt64) ((Int32.ofNat i33) + (1 : Int32)) ((((DD fx bu ge 36 i33) ^^^ (-1 : Int64)) &&& (4294967295 : Int64)) + (BB (DD fx bu ge 36) i33))) []) (fun t k => XS.lload X43.here hx rfl (B d12_108) rfl (XS.bipush X43.here hx rfl (B d12_110) (XS.lushr X43.here hx rfl (B d12_112) rfl (XS.lstore X43.here hx rfl (B d12_113) rfl (l' := (Sh15 a1 su dg (CC fx bu 36) 1 ((((((DD fx bu ge 36 i33) ^^^ (-1 : Int64)) &&& (4294967295 : Int64)) + (BB (DD fx bu ge 36) i33)).toUInt64 >>> ((32 : Int32) &&& 0x3f).toInt64.toUInt64).toInt64) (Int32.ofNat i33) ((((DD fx bu ge 36 i33) ^^^ (-1 : Int64)) &&& (4294967295 : Int64)) + (BB (DD fx bu ge 36) i33)))) rfl (XS.iinc X43.here hx rfl (B d12_115) rfl (l' := (Sh15 a1 su dg (CC fx bu 36) 1 ((((((DD fx bu ge 36 i33) ^^^ (-1 : Int64)) &&& (4294967295 : Int64)) + (BB (DD fx bu ge 36) i33)).toUInt64 >>> ((32 : Int32) &&& 0x3f).toInt64.toUInt64).toInt64) ((Int32.ofNat i33) + (1 : Int32)) ((((DD fx bu ge 36 i33) ^^^ (-1 : Int64)) &&& (4294967295 : Int64)) + (BB (DD fx bu ge 36) i33)))) rfl (XS.goto X43.here hx rfl (pc0 := 118) (pc' := 74) rfl (B d12_118) (by decide) (by decide) k)))))) ?_
      rw [show ((Int32.ofNat i33) + (1 : Int32)) = (Int32.ofNat (i33 + 1)) from own_inc i33]
      show GoW p e below s (Q12 Z a1 su dg a2 ka2 kdg fx ge bu sx h0 n0) 0 0 (T43.setTop (mkF m 74 (Sh15 a1 su dg (CC fx bu 36) 1 ((((((DD fx bu ge 36 i33) ^^^ (-1 : Int64)) &&& (4294967295 : Int64)) + (BB (DD fx bu ge 36) i33)).toUInt64 >>> ((32 : Int32) &&& 0x3f).toInt64.toUInt64).toInt64) (Int32.ofNat (i33 + 1)) ((((DD fx bu ge 36 i33) ^^^ (-1 : Int64)) &&& (4294967295 : Int64)) + (BB (DD fx bu ge 36) i33))) []))
      rw [show (((((DD fx bu ge 36 i33) ^^^ (-1 : Int64)) &&& (4294967295 : Int64)) + (BB (DD fx bu ge 36) i33)).toUInt64 >>> ((32 : Int32) &&& 0x3f).toInt64.toUInt64).toInt64 = (BB (DD fx bu ge 36) (i33 + 1)) from rfl]
      show GoW p e below s (Q12 Z a1 su dg a2 ka2 kdg fx ge bu sx h0 n0) 0 0 (T43.setTop (mkF m 74 (Sh15 a1 su dg (CC fx bu 36) 1 (BB (DD fx bu ge 36) (i33 + 1)) (Int32.ofNat (i33 + 1)) ((((DD fx bu ge 36 i33) ^^^ (-1 : Int64)) &&& (4294967295 : Int64)) + (BB (DD fx bu ge 36) i33))) []))
      have M44 : Lon Z h43 dg kdg (36 : Int32) (BD (DD fx bu ge 36) (i33 + 1)) := M43.cong (fun t ht => own_BDs _ _ t)
      exact ih33 (i33 + 1) (by omega) _ _ _ _ X43 e43 N43 f43_9 f43_10 f43_11 M44 f43_12
    have M45 : Lon Z h32 dg kdg (36 : Int32) (BD (DD fx bu ge 36) 1) := M32.cong (fun t ht => own_BD0 _ t)
    exact J33 35 1 rfl _ _ _ _ X32 e32 N32 f32_5 f32_6 f32_7 M45 f32_8
   ·refine GoW.sg (mkF m 121 (Sh13 a1 su dg (CC fx bu 36) 0 u6) []) (fun t k => XS.ifYes Xj30.here hx rfl (pc0 := 53) (pc' := 60) rfl (B d12_53) rfl ((if0 _ _).trans (flt (mt (lw_lt _ _).mp c31)).2.1) (by decide) (by decide) (XS.iconst Xj30.here hx rfl (B d12_60) (XS.istore Xj30.here hx rfl (B d12_61) rfl (l' := (Sh13 a1 su dg (CC fx bu 36) 0 u6)) rfl (XS.iload Xj30.here hx rfl (B d12_63) rfl (XS.ifYes Xj30.here hx rfl (pc0 := 65) (pc' := 121) rfl (B d12_65) rfl (by decide) (by decide) (by decide) k))))) ?_
    obtain ⟨mm, hm, hs, hd⟩ := own_ps hS c31 (g := ge)
    have M46 : Lon Z hj30 dg kdg (36 : Int32) (dig mm) := j30_3.cong (fun t ht => hd t ht)
    refine GoW.sg (mkF m 133 (Sh18 a1 su dg (CC fx bu 36) 0 35) [(.int 35), (.ref dg)]) (fun t k => XS.bipush Xj30.here hx rfl (B d12_121) (XS.istore Xj30.here hx rfl (B d12_123) rfl (l' := (Sh18 a1 su dg (CC fx bu 36) 0 35)) rfl (XS.iload Xj30.here hx rfl (B d12_125) rfl (XS.ifNo Xj30.here hx rfl (B d12_127) rfl (by decide) (XS.aloadN Xj30.here hx rfl (B d12_130) rfl rfl (XS.iload Xj30.here hx rfl (B d12_131) rfl k)))))) ?_
    refine GoW.sg (mkF m 134 (Sh18 a1 su dg (CC fx bu 36) 0 35) [(.long (dig mm 35))]) (fun t k => own_ldL Xj30 hx hZ ej30 M46 (i := 35) ⟨by decide, rfl, by decide⟩ (g := (mkF m 133 (Sh18 a1 su dg (CC fx bu 36) 0 35) [(.int 35), (.ref dg)])) rfl rfl (B d12_133) t k) ?_
    rw [show (dig mm 35) = (0 : Int64) from rfl]
    show GoW p e below s (Q12 Z a1 su dg a2 ka2 kdg fx ge bu sx h0 n0) 0 0 (Tj30.setTop (mkF m 134 (Sh18 a1 su dg (CC fx bu 36) 0 35) [(.long 0)]))
    refine GoW.sg (mkF m 131 (Sh18 a1 su dg (CC fx bu 36) 0 34) [(.ref dg)]) (fun t k => XS.lconst Xj30.here hx rfl (B d12_134) (XS.lcmp Xj30.here hx rfl (B d12_135) rfl (XS.ifNo Xj30.here hx rfl (B d12_136) rfl (by decide) (XS.iinc Xj30.here hx rfl (B d12_139) rfl (l' := (Sh18 a1 su dg (CC fx bu 36) 0 34)) rfl (XS.goto Xj30.here hx rfl (pc0 := 142) (pc' := 125) rfl (B d12_142) (by decide) (by decide) (XS.iload Xj30.here hx rfl (B d12_125) rfl (XS.ifNo Xj30.here hx rfl (B d12_127) rfl (by decide) (XS.aloadN Xj30.here hx rfl (B d12_130) rfl rfl k)))))))) ?_
    refine GoW.sg (mkF m 133 (Sh18 a1 su dg (CC fx bu 36) 0 34) [(.int 34), (.ref dg)]) (fun t k => XS.iload Xj30.here hx rfl (B d12_131) rfl k) ?_
    refine GoW.sg (mkF m 134 (Sh18 a1 su dg (CC fx bu 36) 0 34) [(.long (dig mm 34))]) (fun t k => own_ldL Xj30 hx hZ ej30 M46 (i := 34) ⟨by decide, rfl, by decide⟩ (g := (mkF m 133 (Sh18 a1 su dg (CC fx bu 36) 0 34) [(.int 34), (.ref dg)])) rfl rfl (B d12_133) t k) ?_
    refine GoW.sg (mkF m 136 (Sh18 a1 su dg (CC fx bu 36) 0 34) [(.int (lcmpW (dig mm 34) (0 : Int64)))]) (fun t k => XS.lconst Xj30.here hx rfl (B d12_134) (XS.lcmp Xj30.here hx rfl (B d12_135) rfl k)) ?_
    by_cases c47 : (dig mm 34) = (0 : Int64)
    ·refine GoW.sg (mkF m 133 (Sh18 a1 su dg (CC fx bu 36) 0 33) [(.int 33), (.ref dg)]) (fun t k => XS.ifNo Xj30.here hx rfl (B d12_136) rfl ((if0 _ _).trans (teq ((lw_eq _ _).mpr c47)).2) (XS.iinc Xj30.here hx rfl (B d12_139) rfl (l' := (Sh18 a1 su dg (CC fx bu 36) 0 33)) rfl (XS.goto Xj30.here hx rfl (pc0 := 142) (pc' := 125) rfl (B d12_142) (by decide) (by decide) (XS.iload Xj30.here hx rfl (B d12_125) rfl (XS.ifNo Xj30.here hx rfl (B d12_127) rfl (by decide) (XS.aloadN Xj30.here hx rfl (B d12_130) rfl rfl (XS.iload Xj30.here hx rfl (B d12_131) rfl k))))))) ?_
     refine GoW.sg (mkF m 134 (Sh18 a1 su dg (CC fx bu 36) 0 33) [(.long (dig mm 33))]) (fun t k => own_ldL Xj30 hx hZ ej30 M46 (i := 33) ⟨by decide, rfl, by decide⟩ (g := (mkF m 133 (Sh18 a1 su dg (CC fx bu 36) 0 33) [(.int 33), (.ref dg)])) rfl rfl (B d12_133) t k) ?_
     refine GoW.sg (mkF m 136 (Sh18 a1 su dg (CC fx bu 36) 0 33) [(.int (lcmpW (dig mm 33) (0 : Int64)))]) (fun t k => XS.lconst Xj30.here hx rfl (B d12_134) (XS.lcmp Xj30.here hx rfl (B d12_135) rfl k)) ?_
     by_cases c48 : (dig mm 33) = (0 : Int64)
     ·refine GoW.sg (mkF m 133 (Sh18 a1 su dg (CC fx bu 36) 0 32) [(.int 32), (.ref dg)]) (fun t k => XS.ifNo Xj30.here hx rfl (B d12_136) rfl ((if0 _ _).trans (teq ((lw_eq _ _).mpr c48)).2) (XS.iinc Xj30.here hx rfl (B d12_139) rfl (l' := (Sh18 a1 su dg (CC fx bu 36) 0 32)) rfl (XS.goto Xj30.here hx rfl (pc0 := 142) (pc' := 125) rfl (B d12_142) (by decide) (by decide) (XS.iload Xj30.here hx rfl (B d12_125) rfl (XS.ifNo Xj30.here hx rfl (B d12_127) rfl (by decide) (XS.aloadN Xj30.here hx rfl (B d12_130) rfl rfl (XS.iload Xj30.here hx rfl (B d12_131) rfl k))))))) ?_
      refine GoW.sg (mkF m 134 (Sh18 a1 su dg (CC fx bu 36) 0 32) [(.long (dig mm 32))]) (fun t k => own_ldL Xj30 hx hZ ej30 M46 (i := 32) ⟨by decide, rfl, by decide⟩ (g := (mkF m 133 (Sh18 a1 su dg (CC fx bu 36) 0 32) [(.int 32), (.ref dg)])) rfl rfl (B d12_133) t k) ?_
      rw [show (dig mm 32) = (0 : Int64) from rfl]
      show GoW p e below s (Q12 Z a1 su dg a2 ka2 kdg fx ge bu sx h0 n0) 0 0 (Tj30.setTop (mkF m 134 (Sh18 a1 su dg (CC fx bu 36) 0 32) [(.long 0)]))
      refine GoW.sg (mkF m 131 (Sh18 a1 su dg (CC fx bu 36) 0 31) [(.ref dg)]) (fun t k => XS.lconst Xj30.here hx rfl (B d12_134) (XS.lcmp Xj30.here hx rfl (B d12_135) rfl (XS.ifNo Xj30.here hx rfl (B d12_136) rfl (by decide) (XS.iinc Xj30.here hx rfl (B d12_139) rfl (l' := (Sh18 a1 su dg (CC fx bu 36) 0 31)) rfl (XS.goto Xj30.here hx rfl (pc0 := 142) (pc' := 125) rfl (B d12_142) (by decide) (by decide) (XS.iload Xj30.here hx rfl (B d12_125) rfl (XS.ifNo Xj30.here hx rfl (B d12_127) rfl (by decide) (XS.aloadN Xj30.here hx rfl (B d12_130) rfl rfl k)))))))) ?_
      refine GoW.sg (mkF m 133 (Sh18 a1 su dg (CC fx bu 36) 0 31) [(.int 31), (.ref dg)]) (fun t k => XS.iload Xj30.here hx rfl (B d12_131) rfl k) ?_
      refine GoW.sg (mkF m 134 (Sh18 a1 su dg (CC fx bu 36) 0 31) [(.long (dig mm 31))]) (fun t k => own_ldL Xj30 hx hZ ej30 M46 (i := 31) ⟨by decide, rfl, by decide⟩ (g := (mkF m 133 (Sh18 a1 su dg (CC fx bu 36) 0 31) [(.int 31), (.ref dg)])) rfl rfl (B d12_133) t k) ?_
      rw [show (dig mm 31) = (0 : Int64) from rfl]
      show GoW p e below s (Q12 Z a1 su dg a2 ka2 kdg fx ge bu sx h0 n0) 0 0 (Tj30.setTop (mkF m 134 (Sh18 a1 su dg (CC fx bu 36) 0 31) [(.long 0)]))
      refine GoW.sg (mkF m 131 (Sh18 a1 su dg (CC fx bu 36) 0 30) [(.ref dg)]) (fun t k => XS.lconst Xj30.here hx rfl (B d12_134) (XS.lcmp Xj30.here hx rfl (B d12_135) rfl (XS.ifNo Xj30.here hx rfl (B d12_136) rfl (by decide) (XS.iinc Xj30.here hx rfl (B d12_139) rfl (l' := (Sh18 a1 su dg (CC fx bu 36) 0 30)) rfl (XS.goto Xj30.here hx rfl (pc0 := 142) (pc' := 125) rfl (B d12_142) (by decide) (by decide) (XS.iload Xj30.here hx rfl (B d12_125) rfl (XS.ifNo Xj30.here hx rfl (B d12_127) rfl (by decide) (XS.aloadN Xj30.here hx rfl (B d12_130) rfl rfl k)))))))) ?_
      refine GoW.sg (mkF m 133 (Sh18 a1 su dg (CC fx bu 36) 0 30) [(.int 30), (.ref dg)]) (fun t k => XS.iload Xj30.here hx rfl (B d12_131) rfl k) ?_
      refine GoW.sg (mkF m 134 (Sh18 a1 su dg (CC fx bu 36) 0 30) [(.long (dig mm 30))]) (fun t k => own_ldL Xj30 hx hZ ej30 M46 (i := 30) ⟨by decide, rfl, by decide⟩ (g := (mkF m 133 (Sh18 a1 su dg (CC fx bu 36) 0 30) [(.int 30), (.ref dg)])) rfl rfl (B d12_133) t k) ?_
      rw [show (dig mm 30) = (0 : Int64) from rfl]
      show GoW p e below s (Q12 Z a1 su dg a2 ka2 kdg fx ge bu sx h0 n0) 0 0 (Tj30.setTop (mkF m 134 (Sh18 a1 su dg (CC fx bu 36) 0 30) [(.long 0)]))
      refine GoW.sg (mkF m 131 (Sh18 a1 su dg (CC fx bu 36) 0 29) [(.ref dg)]) (fun t k => XS.lconst Xj30.here hx rfl (B d12_134) (XS.lcmp Xj30.here hx rfl (B d12_135) rfl (XS.ifNo Xj30.here hx rfl (B d12_136) rfl (by decide) (XS.iinc Xj30.here hx rfl (B d12_139) rfl (l' := (Sh18 a1 su dg (CC fx bu 36) 0 29)) rfl (XS.goto Xj30.here hx rfl (pc0 := 142) (pc' := 125) rfl (B d12_142) (by decide) (by decide) (XS.iload Xj30.here hx rfl (B d12_125) rfl (XS.ifNo Xj30.here hx rfl (B d12_127) rfl (by decide) (XS.aloadN Xj30.here hx rfl (B d12_130) rfl rfl k)))))))) ?_
      refine GoW.sg (mkF m 133 (Sh18 a1 su dg (CC fx bu 36) 0 29) [(.int 29), (.ref dg)]) (fun t k => XS.iload Xj30.here hx rfl (B d12_131) rfl k) ?_
      refine GoW.sg (mkF m 134 (Sh18 a1 su dg (CC fx bu 36) 0 29) [(.long (dig mm 29))]) (fun t k => own_ldL Xj30 hx hZ ej30 M46 (i := 29) ⟨by decide, rfl, by decide⟩ (g := (mkF m 133 (Sh18 a1 su dg (CC fx bu 36) 0 29) [(.int 29), (.ref dg)])) rfl rfl (B d12_133) t k) ?_
      rw [show (dig mm 29) = (0 : Int64) from rfl]
      show GoW p e below s (Q12 Z a1 su dg a2 ka2 kdg fx ge bu sx h0 n0) 0 0 (Tj30.setTop (mkF m 134 (Sh18 a1 su dg (CC fx bu 36) 0 29) [(.long 0)]))
      refine GoW.sg (mkF m 131 (Sh18 a1 su dg (CC fx bu 36) 0 28) [(.ref dg)]) (fun t k => XS.lconst Xj30.here hx rfl (B d12_134) (XS.lcmp Xj30.here hx rfl (B d12_135) rfl (XS.ifNo Xj30.here hx rfl (B d12_136) rfl (by decide) (XS.iinc Xj30.here hx rfl (B d12_139) rfl (l' := (Sh18 a1 su dg (CC fx bu 36) 0 28)) rfl (XS.goto Xj30.here hx rfl (pc0 := 142) (pc' := 125) rfl (B d12_142) (by decide) (by decide) (XS.iload Xj30.here hx rfl (B d12_125) rfl (XS.ifNo Xj30.here hx rfl (B d12_127) rfl (by decide) (XS.aloadN Xj30.here hx rfl (B d12_130) rfl rfl k)))))))) ?_
      refine GoW.sg (mkF m 133 (Sh18 a1 su dg (CC fx bu 36) 0 28) [(.int 28), (.ref dg)]) (fun t k => XS.iload Xj30.here hx rfl (B d12_131) rfl k) ?_
      refine GoW.sg (mkF m 134 (Sh18 a1 su dg (CC fx bu 36) 0 28) [(.long (dig mm 28))]) (fun t k => own_ldL Xj30 hx hZ ej30 M46 (i := 28) ⟨by decide, rfl, by decide⟩ (g := (mkF m 133 (Sh18 a1 su dg (CC fx bu 36) 0 28) [(.int 28), (.ref dg)])) rfl rfl (B d12_133) t k) ?_
      rw [show (dig mm 28) = (0 : Int64) from rfl]
      show GoW p e below s (Q12 Z a1 su dg a2 ka2 kdg fx ge bu sx h0 n0) 0 0 (Tj30.setTop (mkF m 134 (Sh18 a1 su dg (CC fx bu 36) 0 28) [(.long 0)]))
      refine GoW.sg (mkF m 131 (Sh18 a1 su dg (CC fx bu 36) 0 27) [(.ref dg)]) (fun t k => XS.lconst Xj30.here hx rfl (B d12_134) (XS.lcmp Xj30.here hx rfl (B d12_135) rfl (XS.ifNo Xj30.here hx rfl (B d12_136) rfl (by decide) (XS.iinc Xj30.here hx rfl (B d12_139) rfl (l' := (Sh18 a1 su dg (CC fx bu 36) 0 27)) rfl (XS.goto Xj30.here hx rfl (pc0 := 142) (pc' := 125) rfl (B d12_142) (by decide) (by decide) (XS.iload Xj30.here hx rfl (B d12_125) rfl (XS.ifNo Xj30.here hx rfl (B d12_127) rfl (by decide) (XS.aloadN Xj30.here hx rfl (B d12_130) rfl rfl k)))))))) ?_
      refine GoW.sg (mkF m 133 (Sh18 a1 su dg (CC fx bu 36) 0 27) [(.int 27), (.ref dg)]) (fun t k => XS.iload Xj30.here hx rfl (B d12_131) rfl k) ?_
      refine GoW.sg (mkF m 134 (Sh18 a1 su dg (CC fx bu 36) 0 27) [(.long (dig mm 27))]) (fun t k => own_ldL Xj30 hx hZ ej30 M46 (i := 27) ⟨by decide, rfl, by decide⟩ (g := (mkF m 133 (Sh18 a1 su dg (CC fx bu 36) 0 27) [(.int 27), (.ref dg)])) rfl rfl (B d12_133) t k) ?_
      rw [show (dig mm 27) = (0 : Int64) from rfl]
      show GoW p e below s (Q12 Z a1 su dg a2 ka2 kdg fx ge bu sx h0 n0) 0 0 (Tj30.setTop (mkF m 134 (Sh18 a1 su dg (CC fx bu 36) 0 27) [(.long 0)]))
      refine GoW.sg (mkF m 131 (Sh18 a1 su dg (CC fx bu 36) 0 26) [(.ref dg)]) (fun t k => XS.lconst Xj30.here hx rfl (B d12_134) (XS.lcmp Xj30.here hx rfl (B d12_135) rfl (XS.ifNo Xj30.here hx rfl (B d12_136) rfl (by decide) (XS.iinc Xj30.here hx rfl (B d12_139) rfl (l' := (Sh18 a1 su dg (CC fx bu 36) 0 26)) rfl (XS.goto Xj30.here hx rfl (pc0 := 142) (pc' := 125) rfl (B d12_142) (by decide) (by decide) (XS.iload Xj30.here hx rfl (B d12_125) rfl (XS.ifNo Xj30.here hx rfl (B d12_127) rfl (by decide) (XS.aloadN Xj30.here hx rfl (B d12_130) rfl rfl k)))))))) ?_
      refine GoW.sg (mkF m 133 (Sh18 a1 su dg (CC fx bu 36) 0 26) [(.int 26), (.ref dg)]) (fun t k => XS.iload Xj30.here hx rfl (B d12_131) rfl k) ?_
      refine GoW.sg (mkF m 134 (Sh18 a1 su dg (CC fx bu 36) 0 26) [(.long (dig mm 26))]) (fun t k => own_ldL Xj30 hx hZ ej30 M46 (i := 26) ⟨by decide, rfl, by decide⟩ (g := (mkF m 133 (Sh18 a1 su dg (CC fx bu 36) 0 26) [(.int 26), (.ref dg)])) rfl rfl (B d12_133) t k) ?_
      rw [show (dig mm 26) = (0 : Int64) from rfl]
      show GoW p e below s (Q12 Z a1 su dg a2 ka2 kdg fx ge bu sx h0 n0) 0 0 (Tj30.setTop (mkF m 134 (Sh18 a1 su dg (CC fx bu 36) 0 26) [(.long 0)]))
      refine GoW.sg (mkF m 131 (Sh18 a1 su dg (CC fx bu 36) 0 25) [(.ref dg)]) (fun t k => XS.lconst Xj30.here hx rfl (B d12_134) (XS.lcmp Xj30.here hx rfl (B d12_135) rfl (XS.ifNo Xj30.here hx rfl (B d12_136) rfl (by decide) (XS.iinc Xj30.here hx rfl (B d12_139) rfl (l' := (Sh18 a1 su dg (CC fx bu 36) 0 25)) rfl (XS.goto Xj30.here hx rfl (pc0 := 142) (pc' := 125) rfl (B d12_142) (by decide) (by decide) (XS.iload Xj30.here hx rfl (B d12_125) rfl (XS.ifNo Xj30.here hx rfl (B d12_127) rfl (by decide) (XS.aloadN Xj30.here hx rfl (B d12_130) rfl rfl k)))))))) ?_
      refine GoW.sg (mkF m 133 (Sh18 a1 su dg (CC fx bu 36) 0 25) [(.int 25), (.ref dg)]) (fun t k => XS.iload Xj30.here hx rfl (B d12_131) rfl k) ?_
      refine GoW.sg (mkF m 134 (Sh18 a1 su dg (CC fx bu 36) 0 25) [(.long (dig mm 25))]) (fun t k => own_ldL Xj30 hx hZ ej30 M46 (i := 25) ⟨by decide, rfl, by decide⟩ (g := (mkF m 133 (Sh18 a1 su dg (CC fx bu 36) 0 25) [(.int 25), (.ref dg)])) rfl rfl (B d12_133) t k) ?_
      rw [show (dig mm 25) = (0 : Int64) from rfl]
      show GoW p e below s (Q12 Z a1 su dg a2 ka2 kdg fx ge bu sx h0 n0) 0 0 (Tj30.setTop (mkF m 134 (Sh18 a1 su dg (CC fx bu 36) 0 25) [(.long 0)]))
      refine GoW.sg (mkF m 131 (Sh18 a1 su dg (CC fx bu 36) 0 24) [(.ref dg)]) (fun t k => XS.lconst Xj30.here hx rfl (B d12_134) (XS.lcmp Xj30.here hx rfl (B d12_135) rfl (XS.ifNo Xj30.here hx rfl (B d12_136) rfl (by decide) (XS.iinc Xj30.here hx rfl (B d12_139) rfl (l' := (Sh18 a1 su dg (CC fx bu 36) 0 24)) rfl (XS.goto Xj30.here hx rfl (pc0 := 142) (pc' := 125) rfl (B d12_142) (by decide) (by decide) (XS.iload Xj30.here hx rfl (B d12_125) rfl (XS.ifNo Xj30.here hx rfl (B d12_127) rfl (by decide) (XS.aloadN Xj30.here hx rfl (B d12_130) rfl rfl k)))))))) ?_
      refine GoW.sg (mkF m 133 (Sh18 a1 su dg (CC fx bu 36) 0 24) [(.int 24), (.ref dg)]) (fun t k => XS.iload Xj30.here hx rfl (B d12_131) rfl k) ?_
      refine GoW.sg (mkF m 134 (Sh18 a1 su dg (CC fx bu 36) 0 24) [(.long (dig mm 24))]) (fun t k => own_ldL Xj30 hx hZ ej30 M46 (i := 24) ⟨by decide, rfl, by decide⟩ (g := (mkF m 133 (Sh18 a1 su dg (CC fx bu 36) 0 24) [(.int 24), (.ref dg)])) rfl rfl (B d12_133) t k) ?_
      rw [show (dig mm 24) = (0 : Int64) from rfl]
      show GoW p e below s (Q12 Z a1 su dg a2 ka2 kdg fx ge bu sx h0 n0) 0 0 (Tj30.setTop (mkF m 134 (Sh18 a1 su dg (CC fx bu 36) 0 24) [(.long 0)]))
      refine GoW.sg (mkF m 131 (Sh18 a1 su dg (CC fx bu 36) 0 23) [(.ref dg)]) (fun t k => XS.lconst Xj30.here hx rfl (B d12_134) (XS.lcmp Xj30.here hx rfl (B d12_135) rfl (XS.ifNo Xj30.here hx rfl (B d12_136) rfl (by decide) (XS.iinc Xj30.here hx rfl (B d12_139) rfl (l' := (Sh18 a1 su dg (CC fx bu 36) 0 23)) rfl (XS.goto Xj30.here hx rfl (pc0 := 142) (pc' := 125) rfl (B d12_142) (by decide) (by decide) (XS.iload Xj30.here hx rfl (B d12_125) rfl (XS.ifNo Xj30.here hx rfl (B d12_127) rfl (by decide) (XS.aloadN Xj30.here hx rfl (B d12_130) rfl rfl k)))))))) ?_
      refine GoW.sg (mkF m 133 (Sh18 a1 su dg (CC fx bu 36) 0 23) [(.int 23), (.ref dg)]) (fun t k => XS.iload Xj30.here hx rfl (B d12_131) rfl k) ?_
      refine GoW.sg (mkF m 134 (Sh18 a1 su dg (CC fx bu 36) 0 23) [(.long (dig mm 23))]) (fun t k => own_ldL Xj30 hx hZ ej30 M46 (i := 23) ⟨by decide, rfl, by decide⟩ (g := (mkF m 133 (Sh18 a1 su dg (CC fx bu 36) 0 23) [(.int 23), (.ref dg)])) rfl rfl (B d12_133) t k) ?_
      rw [show (dig mm 23) = (0 : Int64) from rfl]
      show GoW p e below s (Q12 Z a1 su dg a2 ka2 kdg fx ge bu sx h0 n0) 0 0 (Tj30.setTop (mkF m 134 (Sh18 a1 su dg (CC fx bu 36) 0 23) [(.long 0)]))
      refine GoW.sg (mkF m 131 (Sh18 a1 su dg (CC fx bu 36) 0 22) [(.ref dg)]) (fun t k => XS.lconst Xj30.here hx rfl (B d12_134) (XS.lcmp Xj30.here hx rfl (B d12_135) rfl (XS.ifNo Xj30.here hx rfl (B d12_136) rfl (by decide) (XS.iinc Xj30.here hx rfl (B d12_139) rfl (l' := (Sh18 a1 su dg (CC fx bu 36) 0 22)) rfl (XS.goto Xj30.here hx rfl (pc0 := 142) (pc' := 125) rfl (B d12_142) (by decide) (by decide) (XS.iload Xj30.here hx rfl (B d12_125) rfl (XS.ifNo Xj30.here hx rfl (B d12_127) rfl (by decide) (XS.aloadN Xj30.here hx rfl (B d12_130) rfl rfl k)))))))) ?_
      refine GoW.sg (mkF m 133 (Sh18 a1 su dg (CC fx bu 36) 0 22) [(.int 22), (.ref dg)]) (fun t k => XS.iload Xj30.here hx rfl (B d12_131) rfl k) ?_
      refine GoW.sg (mkF m 134 (Sh18 a1 su dg (CC fx bu 36) 0 22) [(.long (dig mm 22))]) (fun t k => own_ldL Xj30 hx hZ ej30 M46 (i := 22) ⟨by decide, rfl, by decide⟩ (g := (mkF m 133 (Sh18 a1 su dg (CC fx bu 36) 0 22) [(.int 22), (.ref dg)])) rfl rfl (B d12_133) t k) ?_
      rw [show (dig mm 22) = (0 : Int64) from rfl]
      show GoW p e below s (Q12 Z a1 su dg a2 ka2 kdg fx ge bu sx h0 n0) 0 0 (Tj30.setTop (mkF m 134 (Sh18 a1 su dg (CC fx bu 36) 0 22) [(.long 0)]))
      refine GoW.sg (mkF m 131 (Sh18 a1 su dg (CC fx bu 36) 0 21) [(.ref dg)]) (fun t k => XS.lconst Xj30.here hx rfl (B d12_134) (XS.lcmp Xj30.here hx rfl (B d12_135) rfl (XS.ifNo Xj30.here hx rfl (B d12_136) rfl (by decide) (XS.iinc Xj30.here hx rfl (B d12_139) rfl (l' := (Sh18 a1 su dg (CC fx bu 36) 0 21)) rfl (XS.goto Xj30.here hx rfl (pc0 := 142) (pc' := 125) rfl (B d12_142) (by decide) (by decide) (XS.iload Xj30.here hx rfl (B d12_125) rfl (XS.ifNo Xj30.here hx rfl (B d12_127) rfl (by decide) (XS.aloadN Xj30.here hx rfl (B d12_130) rfl rfl k)))))))) ?_
      refine GoW.sg (mkF m 133 (Sh18 a1 su dg (CC fx bu 36) 0 21) [(.int 21), (.ref dg)]) (fun t k => XS.iload Xj30.here hx rfl (B d12_131) rfl k) ?_
      refine GoW.sg (mkF m 134 (Sh18 a1 su dg (CC fx bu 36) 0 21) [(.long (dig mm 21))]) (fun t k => own_ldL Xj30 hx hZ ej30 M46 (i := 21) ⟨by decide, rfl, by decide⟩ (g := (mkF m 133 (Sh18 a1 su dg (CC fx bu 36) 0 21) [(.int 21), (.ref dg)])) rfl rfl (B d12_133) t k) ?_
      rw [show (dig mm 21) = (0 : Int64) from rfl]
      show GoW p e below s (Q12 Z a1 su dg a2 ka2 kdg fx ge bu sx h0 n0) 0 0 (Tj30.setTop (mkF m 134 (Sh18 a1 su dg (CC fx bu 36) 0 21) [(.long 0)]))
      refine GoW.sg (mkF m 131 (Sh18 a1 su dg (CC fx bu 36) 0 20) [(.ref dg)]) (fun t k => XS.lconst Xj30.here hx rfl (B d12_134) (XS.lcmp Xj30.here hx rfl (B d12_135) rfl (XS.ifNo Xj30.here hx rfl (B d12_136) rfl (by decide) (XS.iinc Xj30.here hx rfl (B d12_139) rfl (l' := (Sh18 a1 su dg (CC fx bu 36) 0 20)) rfl (XS.goto Xj30.here hx rfl (pc0 := 142) (pc' := 125) rfl (B d12_142) (by decide) (by decide) (XS.iload Xj30.here hx rfl (B d12_125) rfl (XS.ifNo Xj30.here hx rfl (B d12_127) rfl (by decide) (XS.aloadN Xj30.here hx rfl (B d12_130) rfl rfl k)))))))) ?_
      refine GoW.sg (mkF m 133 (Sh18 a1 su dg (CC fx bu 36) 0 20) [(.int 20), (.ref dg)]) (fun t k => XS.iload Xj30.here hx rfl (B d12_131) rfl k) ?_
      refine GoW.sg (mkF m 134 (Sh18 a1 su dg (CC fx bu 36) 0 20) [(.long (dig mm 20))]) (fun t k => own_ldL Xj30 hx hZ ej30 M46 (i := 20) ⟨by decide, rfl, by decide⟩ (g := (mkF m 133 (Sh18 a1 su dg (CC fx bu 36) 0 20) [(.int 20), (.ref dg)])) rfl rfl (B d12_133) t k) ?_
      rw [show (dig mm 20) = (0 : Int64) from rfl]
      show GoW p e below s (Q12 Z a1 su dg a2 ka2 kdg fx ge bu sx h0 n0) 0 0 (Tj30.setTop (mkF m 134 (Sh18 a1 su dg (CC fx bu 36) 0 20) [(.long 0)]))
      refine GoW.sg (mkF m 131 (Sh18 a1 su dg (CC fx bu 36) 0 19) [(.ref dg)]) (fun t k => XS.lconst Xj30.here hx rfl (B d12_134) (XS.lcmp Xj30.here hx rfl (B d12_135) rfl (XS.ifNo Xj30.here hx rfl (B d12_136) rfl (by decide) (XS.iinc Xj30.here hx rfl (B d12_139) rfl (l' := (Sh18 a1 su dg (CC fx bu 36) 0 19)) rfl (XS.goto Xj30.here hx rfl (pc0 := 142) (pc' := 125) rfl (B d12_142) (by decide) (by decide) (XS.iload Xj30.here hx rfl (B d12_125) rfl (XS.ifNo Xj30.here hx rfl (B d12_127) rfl (by decide) (XS.aloadN Xj30.here hx rfl (B d12_130) rfl rfl k)))))))) ?_
      refine GoW.sg (mkF m 133 (Sh18 a1 su dg (CC fx bu 36) 0 19) [(.int 19), (.ref dg)]) (fun t k => XS.iload Xj30.here hx rfl (B d12_131) rfl k) ?_
      refine GoW.sg (mkF m 134 (Sh18 a1 su dg (CC fx bu 36) 0 19) [(.long (dig mm 19))]) (fun t k => own_ldL Xj30 hx hZ ej30 M46 (i := 19) ⟨by decide, rfl, by decide⟩ (g := (mkF m 133 (Sh18 a1 su dg (CC fx bu 36) 0 19) [(.int 19), (.ref dg)])) rfl rfl (B d12_133) t k) ?_
      rw [show (dig mm 19) = (0 : Int64) from rfl]
      show GoW p e below s (Q12 Z a1 su dg a2 ka2 kdg fx ge bu sx h0 n0) 0 0 (Tj30.setTop (mkF m 134 (Sh18 a1 su dg (CC fx bu 36) 0 19) [(.long 0)]))
      refine GoW.sg (mkF m 131 (Sh18 a1 su dg (CC fx bu 36) 0 18) [(.ref dg)]) (fun t k => XS.lconst Xj30.here hx rfl (B d12_134) (XS.lcmp Xj30.here hx rfl (B d12_135) rfl (XS.ifNo Xj30.here hx rfl (B d12_136) rfl (by decide) (XS.iinc Xj30.here hx rfl (B d12_139) rfl (l' := (Sh18 a1 su dg (CC fx bu 36) 0 18)) rfl (XS.goto Xj30.here hx rfl (pc0 := 142) (pc' := 125) rfl (B d12_142) (by decide) (by decide) (XS.iload Xj30.here hx rfl (B d12_125) rfl (XS.ifNo Xj30.here hx rfl (B d12_127) rfl (by decide) (XS.aloadN Xj30.here hx rfl (B d12_130) rfl rfl k)))))))) ?_
      refine GoW.sg (mkF m 133 (Sh18 a1 su dg (CC fx bu 36) 0 18) [(.int 18), (.ref dg)]) (fun t k => XS.iload Xj30.here hx rfl (B d12_131) rfl k) ?_
      refine GoW.sg (mkF m 134 (Sh18 a1 su dg (CC fx bu 36) 0 18) [(.long (dig mm 18))]) (fun t k => own_ldL Xj30 hx hZ ej30 M46 (i := 18) ⟨by decide, rfl, by decide⟩ (g := (mkF m 133 (Sh18 a1 su dg (CC fx bu 36) 0 18) [(.int 18), (.ref dg)])) rfl rfl (B d12_133) t k) ?_
      rw [show (dig mm 18) = (0 : Int64) from rfl]
      show GoW p e below s (Q12 Z a1 su dg a2 ka2 kdg fx ge bu sx h0 n0) 0 0 (Tj30.setTop (mkF m 134 (Sh18 a1 su dg (CC fx bu 36) 0 18) [(.long 0)]))
      refine GoW.sg (mkF m 131 (Sh18 a1 su dg (CC fx bu 36) 0 17) [(.ref dg)]) (fun t k => XS.lconst Xj30.here hx rfl (B d12_134) (XS.lcmp Xj30.here hx rfl (B d12_135) rfl (XS.ifNo Xj30.here hx rfl (B d12_136) rfl (by decide) (XS.iinc Xj30.here hx rfl (B d12_139) rfl (l' := (Sh18 a1 su dg (CC fx bu 36) 0 17)) rfl (XS.goto Xj30.here hx rfl (pc0 := 142) (pc' := 125) rfl (B d12_142) (by decide) (by decide) (XS.iload Xj30.here hx rfl (B d12_125) rfl (XS.ifNo Xj30.here hx rfl (B d12_127) rfl (by decide) (XS.aloadN Xj30.here hx rfl (B d12_130) rfl rfl k)))))))) ?_
      refine GoW.sg (mkF m 133 (Sh18 a1 su dg (CC fx bu 36) 0 17) [(.int 17), (.ref dg)]) (fun t k => XS.iload Xj30.here hx rfl (B d12_131) rfl k) ?_
      refine GoW.sg (mkF m 134 (Sh18 a1 su dg (CC fx bu 36) 0 17) [(.long (dig mm 17))]) (fun t k => own_ldL Xj30 hx hZ ej30 M46 (i := 17) ⟨by decide, rfl, by decide⟩ (g := (mkF m 133 (Sh18 a1 su dg (CC fx bu 36) 0 17) [(.int 17), (.ref dg)])) rfl rfl (B d12_133) t k) ?_
      rw [show (dig mm 17) = (0 : Int64) from rfl]
      show GoW p e below s (Q12 Z a1 su dg a2 ka2 kdg fx ge bu sx h0 n0) 0 0 (Tj30.setTop (mkF m 134 (Sh18 a1 su dg (CC fx bu 36) 0 17) [(.long 0)]))
      refine GoW.sg (mkF m 131 (Sh18 a1 su dg (CC fx bu 36) 0 16) [(.ref dg)]) (fun t k => XS.lconst Xj30.here hx rfl (B d12_134) (XS.lcmp Xj30.here hx rfl (B d12_135) rfl (XS.ifNo Xj30.here hx rfl (B d12_136) rfl (by decide) (XS.iinc Xj30.here hx rfl (B d12_139) rfl (l' := (Sh18 a1 su dg (CC fx bu 36) 0 16)) rfl (XS.goto Xj30.here hx rfl (pc0 := 142) (pc' := 125) rfl (B d12_142) (by decide) (by decide) (XS.iload Xj30.here hx rfl (B d12_125) rfl (XS.ifNo Xj30.here hx rfl (B d12_127) rfl (by decide) (XS.aloadN Xj30.here hx rfl (B d12_130) rfl rfl k)))))))) ?_
      refine GoW.sg (mkF m 133 (Sh18 a1 su dg (CC fx bu 36) 0 16) [(.int 16), (.ref dg)]) (fun t k => XS.iload Xj30.here hx rfl (B d12_131) rfl k) ?_
      refine GoW.sg (mkF m 134 (Sh18 a1 su dg (CC fx bu 36) 0 16) [(.long (dig mm 16))]) (fun t k => own_ldL Xj30 hx hZ ej30 M46 (i := 16) ⟨by decide, rfl, by decide⟩ (g := (mkF m 133 (Sh18 a1 su dg (CC fx bu 36) 0 16) [(.int 16), (.ref dg)])) rfl rfl (B d12_133) t k) ?_
      rw [show (dig mm 16) = (0 : Int64) from rfl]
      show GoW p e below s (Q12 Z a1 su dg a2 ka2 kdg fx ge bu sx h0 n0) 0 0 (Tj30.setTop (mkF m 134 (Sh18 a1 su dg (CC fx bu 36) 0 16) [(.long 0)]))
      refine GoW.sg (mkF m 131 (Sh18 a1 su dg (CC fx bu 36) 0 15) [(.ref dg)]) (fun t k => XS.lconst Xj30.here hx rfl (B d12_134) (XS.lcmp Xj30.here hx rfl (B d12_135) rfl (XS.ifNo Xj30.here hx rfl (B d12_136) rfl (by decide) (XS.iinc Xj30.here hx rfl (B d12_139) rfl (l' := (Sh18 a1 su dg (CC fx bu 36) 0 15)) rfl (XS.goto Xj30.here hx rfl (pc0 := 142) (pc' := 125) rfl (B d12_142) (by decide) (by decide) (XS.iload Xj30.here hx rfl (B d12_125) rfl (XS.ifNo Xj30.here hx rfl (B d12_127) rfl (by decide) (XS.aloadN Xj30.here hx rfl (B d12_130) rfl rfl k)))))))) ?_
      refine GoW.sg (mkF m 133 (Sh18 a1 su dg (CC fx bu 36) 0 15) [(.int 15), (.ref dg)]) (fun t k => XS.iload Xj30.here hx rfl (B d12_131) rfl k) ?_
      refine GoW.sg (mkF m 134 (Sh18 a1 su dg (CC fx bu 36) 0 15) [(.long (dig mm 15))]) (fun t k => own_ldL Xj30 hx hZ ej30 M46 (i := 15) ⟨by decide, rfl, by decide⟩ (g := (mkF m 133 (Sh18 a1 su dg (CC fx bu 36) 0 15) [(.int 15), (.ref dg)])) rfl rfl (B d12_133) t k) ?_
      rw [show (dig mm 15) = (0 : Int64) from rfl]
      show GoW p e below s (Q12 Z a1 su dg a2 ka2 kdg fx ge bu sx h0 n0) 0 0 (Tj30.setTop (mkF m 134 (Sh18 a1 su dg (CC fx bu 36) 0 15) [(.long 0)]))
      refine GoW.sg (mkF m 131 (Sh18 a1 su dg (CC fx bu 36) 0 14) [(.ref dg)]) (fun t k => XS.lconst Xj30.here hx rfl (B d12_134) (XS.lcmp Xj30.here hx rfl (B d12_135) rfl (XS.ifNo Xj30.here hx rfl (B d12_136) rfl (by decide) (XS.iinc Xj30.here hx rfl (B d12_139) rfl (l' := (Sh18 a1 su dg (CC fx bu 36) 0 14)) rfl (XS.goto Xj30.here hx rfl (pc0 := 142) (pc' := 125) rfl (B d12_142) (by decide) (by decide) (XS.iload Xj30.here hx rfl (B d12_125) rfl (XS.ifNo Xj30.here hx rfl (B d12_127) rfl (by decide) (XS.aloadN Xj30.here hx rfl (B d12_130) rfl rfl k)))))))) ?_
      refine GoW.sg (mkF m 133 (Sh18 a1 su dg (CC fx bu 36) 0 14) [(.int 14), (.ref dg)]) (fun t k => XS.iload Xj30.here hx rfl (B d12_131) rfl k) ?_
      refine GoW.sg (mkF m 134 (Sh18 a1 su dg (CC fx bu 36) 0 14) [(.long (dig mm 14))]) (fun t k => own_ldL Xj30 hx hZ ej30 M46 (i := 14) ⟨by decide, rfl, by decide⟩ (g := (mkF m 133 (Sh18 a1 su dg (CC fx bu 36) 0 14) [(.int 14), (.ref dg)])) rfl rfl (B d12_133) t k) ?_
      rw [show (dig mm 14) = (0 : Int64) from rfl]
      show GoW p e below s (Q12 Z a1 su dg a2 ka2 kdg fx ge bu sx h0 n0) 0 0 (Tj30.setTop (mkF m 134 (Sh18 a1 su dg (CC fx bu 36) 0 14) [(.long 0)]))
      refine GoW.sg (mkF m 131 (Sh18 a1 su dg (CC fx bu 36) 0 13) [(.ref dg)]) (fun t k => XS.lconst Xj30.here hx rfl (B d12_134) (XS.lcmp Xj30.here hx rfl (B d12_135) rfl (XS.ifNo Xj30.here hx rfl (B d12_136) rfl (by decide) (XS.iinc Xj30.here hx rfl (B d12_139) rfl (l' := (Sh18 a1 su dg (CC fx bu 36) 0 13)) rfl (XS.goto Xj30.here hx rfl (pc0 := 142) (pc' := 125) rfl (B d12_142) (by decide) (by decide) (XS.iload Xj30.here hx rfl (B d12_125) rfl (XS.ifNo Xj30.here hx rfl (B d12_127) rfl (by decide) (XS.aloadN Xj30.here hx rfl (B d12_130) rfl rfl k)))))))) ?_
      refine GoW.sg (mkF m 133 (Sh18 a1 su dg (CC fx bu 36) 0 13) [(.int 13), (.ref dg)]) (fun t k => XS.iload Xj30.here hx rfl (B d12_131) rfl k) ?_
      refine GoW.sg (mkF m 134 (Sh18 a1 su dg (CC fx bu 36) 0 13) [(.long (dig mm 13))]) (fun t k => own_ldL Xj30 hx hZ ej30 M46 (i := 13) ⟨by decide, rfl, by decide⟩ (g := (mkF m 133 (Sh18 a1 su dg (CC fx bu 36) 0 13) [(.int 13), (.ref dg)])) rfl rfl (B d12_133) t k) ?_
      rw [show (dig mm 13) = (0 : Int64) from rfl]
      show GoW p e below s (Q12 Z a1 su dg a2 ka2 kdg fx ge bu sx h0 n0) 0 0 (Tj30.setTop (mkF m 134 (Sh18 a1 su dg (CC fx bu 36) 0 13) [(.long 0)]))
      refine GoW.sg (mkF m 131 (Sh18 a1 su dg (CC fx bu 36) 0 12) [(.ref dg)]) (fun t k => XS.lconst Xj30.here hx rfl (B d12_134) (XS.lcmp Xj30.here hx rfl (B d12_135) rfl (XS.ifNo Xj30.here hx rfl (B d12_136) rfl (by decide) (XS.iinc Xj30.here hx rfl (B d12_139) rfl (l' := (Sh18 a1 su dg (CC fx bu 36) 0 12)) rfl (XS.goto Xj30.here hx rfl (pc0 := 142) (pc' := 125) rfl (B d12_142) (by decide) (by decide) (XS.iload Xj30.here hx rfl (B d12_125) rfl (XS.ifNo Xj30.here hx rfl (B d12_127) rfl (by decide) (XS.aloadN Xj30.here hx rfl (B d12_130) rfl rfl k)))))))) ?_
      refine GoW.sg (mkF m 133 (Sh18 a1 su dg (CC fx bu 36) 0 12) [(.int 12), (.ref dg)]) (fun t k => XS.iload Xj30.here hx rfl (B d12_131) rfl k) ?_
      refine GoW.sg (mkF m 134 (Sh18 a1 su dg (CC fx bu 36) 0 12) [(.long (dig mm 12))]) (fun t k => own_ldL Xj30 hx hZ ej30 M46 (i := 12) ⟨by decide, rfl, by decide⟩ (g := (mkF m 133 (Sh18 a1 su dg (CC fx bu 36) 0 12) [(.int 12), (.ref dg)])) rfl rfl (B d12_133) t k) ?_
      rw [show (dig mm 12) = (0 : Int64) from rfl]
      show GoW p e below s (Q12 Z a1 su dg a2 ka2 kdg fx ge bu sx h0 n0) 0 0 (Tj30.setTop (mkF m 134 (Sh18 a1 su dg (CC fx bu 36) 0 12) [(.long 0)]))
      refine GoW.sg (mkF m 131 (Sh18 a1 su dg (CC fx bu 36) 0 11) [(.ref dg)]) (fun t k => XS.lconst Xj30.here hx rfl (B d12_134) (XS.lcmp Xj30.here hx rfl (B d12_135) rfl (XS.ifNo Xj30.here hx rfl (B d12_136) rfl (by decide) (XS.iinc Xj30.here hx rfl (B d12_139) rfl (l' := (Sh18 a1 su dg (CC fx bu 36) 0 11)) rfl (XS.goto Xj30.here hx rfl (pc0 := 142) (pc' := 125) rfl (B d12_142) (by decide) (by decide) (XS.iload Xj30.here hx rfl (B d12_125) rfl (XS.ifNo Xj30.here hx rfl (B d12_127) rfl (by decide) (XS.aloadN Xj30.here hx rfl (B d12_130) rfl rfl k)))))))) ?_
      refine GoW.sg (mkF m 133 (Sh18 a1 su dg (CC fx bu 36) 0 11) [(.int 11), (.ref dg)]) (fun t k => XS.iload Xj30.here hx rfl (B d12_131) rfl k) ?_
      refine GoW.sg (mkF m 134 (Sh18 a1 su dg (CC fx bu 36) 0 11) [(.long (dig mm 11))]) (fun t k => own_ldL Xj30 hx hZ ej30 M46 (i := 11) ⟨by decide, rfl, by decide⟩ (g := (mkF m 133 (Sh18 a1 su dg (CC fx bu 36) 0 11) [(.int 11), (.ref dg)])) rfl rfl (B d12_133) t k) ?_
      rw [show (dig mm 11) = (0 : Int64) from rfl]
      show GoW p e below s (Q12 Z a1 su dg a2 ka2 kdg fx ge bu sx h0 n0) 0 0 (Tj30.setTop (mkF m 134 (Sh18 a1 su dg (CC fx bu 36) 0 11) [(.long 0)]))
      refine GoW.sg (mkF m 131 (Sh18 a1 su dg (CC fx bu 36) 0 10) [(.ref dg)]) (fun t k => XS.lconst Xj30.here hx rfl (B d12_134) (XS.lcmp Xj30.here hx rfl (B d12_135) rfl (XS.ifNo Xj30.here hx rfl (B d12_136) rfl (by decide) (XS.iinc Xj30.here hx rfl (B d12_139) rfl (l' := (Sh18 a1 su dg (CC fx bu 36) 0 10)) rfl (XS.goto Xj30.here hx rfl (pc0 := 142) (pc' := 125) rfl (B d12_142) (by decide) (by decide) (XS.iload Xj30.here hx rfl (B d12_125) rfl (XS.ifNo Xj30.here hx rfl (B d12_127) rfl (by decide) (XS.aloadN Xj30.here hx rfl (B d12_130) rfl rfl k)))))))) ?_
      refine GoW.sg (mkF m 133 (Sh18 a1 su dg (CC fx bu 36) 0 10) [(.int 10), (.ref dg)]) (fun t k => XS.iload Xj30.here hx rfl (B d12_131) rfl k) ?_
      refine GoW.sg (mkF m 134 (Sh18 a1 su dg (CC fx bu 36) 0 10) [(.long (dig mm 10))]) (fun t k => own_ldL Xj30 hx hZ ej30 M46 (i := 10) ⟨by decide, rfl, by decide⟩ (g := (mkF m 133 (Sh18 a1 su dg (CC fx bu 36) 0 10) [(.int 10), (.ref dg)])) rfl rfl (B d12_133) t k) ?_
      rw [show (dig mm 10) = (0 : Int64) from rfl]
      show GoW p e below s (Q12 Z a1 su dg a2 ka2 kdg fx ge bu sx h0 n0) 0 0 (Tj30.setTop (mkF m 134 (Sh18 a1 su dg (CC fx bu 36) 0 10) [(.long 0)]))
      refine GoW.sg (mkF m 131 (Sh18 a1 su dg (CC fx bu 36) 0 9) [(.ref dg)]) (fun t k => XS.lconst Xj30.here hx rfl (B d12_134) (XS.lcmp Xj30.here hx rfl (B d12_135) rfl (XS.ifNo Xj30.here hx rfl (B d12_136) rfl (by decide) (XS.iinc Xj30.here hx rfl (B d12_139) rfl (l' := (Sh18 a1 su dg (CC fx bu 36) 0 9)) rfl (XS.goto Xj30.here hx rfl (pc0 := 142) (pc' := 125) rfl (B d12_142) (by decide) (by decide) (XS.iload Xj30.here hx rfl (B d12_125) rfl (XS.ifNo Xj30.here hx rfl (B d12_127) rfl (by decide) (XS.aloadN Xj30.here hx rfl (B d12_130) rfl rfl k)))))))) ?_
      refine GoW.sg (mkF m 133 (Sh18 a1 su dg (CC fx bu 36) 0 9) [(.int 9), (.ref dg)]) (fun t k => XS.iload Xj30.here hx rfl (B d12_131) rfl k) ?_
      refine GoW.sg (mkF m 134 (Sh18 a1 su dg (CC fx bu 36) 0 9) [(.long (dig mm 9))]) (fun t k => own_ldL Xj30 hx hZ ej30 M46 (i := 9) ⟨by decide, rfl, by decide⟩ (g := (mkF m 133 (Sh18 a1 su dg (CC fx bu 36) 0 9) [(.int 9), (.ref dg)])) rfl rfl (B d12_133) t k) ?_
      rw [show (dig mm 9) = (0 : Int64) from rfl]
      show GoW p e below s (Q12 Z a1 su dg a2 ka2 kdg fx ge bu sx h0 n0) 0 0 (Tj30.setTop (mkF m 134 (Sh18 a1 su dg (CC fx bu 36) 0 9) [(.long 0)]))
      refine GoW.sg (mkF m 131 (Sh18 a1 su dg (CC fx bu 36) 0 8) [(.ref dg)]) (fun t k => XS.lconst Xj30.here hx rfl (B d12_134) (XS.lcmp Xj30.here hx rfl (B d12_135) rfl (XS.ifNo Xj30.here hx rfl (B d12_136) rfl (by decide) (XS.iinc Xj30.here hx rfl (B d12_139) rfl (l' := (Sh18 a1 su dg (CC fx bu 36) 0 8)) rfl (XS.goto Xj30.here hx rfl (pc0 := 142) (pc' := 125) rfl (B d12_142) (by decide) (by decide) (XS.iload Xj30.here hx rfl (B d12_125) rfl (XS.ifNo Xj30.here hx rfl (B d12_127) rfl (by decide) (XS.aloadN Xj30.here hx rfl (B d12_130) rfl rfl k)))))))) ?_
      refine GoW.sg (mkF m 133 (Sh18 a1 su dg (CC fx bu 36) 0 8) [(.int 8), (.ref dg)]) (fun t k => XS.iload Xj30.here hx rfl (B d12_131) rfl k) ?_
      refine GoW.sg (mkF m 134 (Sh18 a1 su dg (CC fx bu 36) 0 8) [(.long (dig mm 8))]) (fun t k => own_ldL Xj30 hx hZ ej30 M46 (i := 8) ⟨by decide, rfl, by decide⟩ (g := (mkF m 133 (Sh18 a1 su dg (CC fx bu 36) 0 8) [(.int 8), (.ref dg)])) rfl rfl (B d12_133) t k) ?_
      rw [show (dig mm 8) = (0 : Int64) from rfl]
      show GoW p e below s (Q12 Z a1 su dg a2 ka2 kdg fx ge bu sx h0 n0) 0 0 (Tj30.setTop (mkF m 134 (Sh18 a1 su dg (CC fx bu 36) 0 8) [(.long 0)]))
      refine GoW.sg (mkF m 131 (Sh18 a1 su dg (CC fx bu 36) 0 7) [(.ref dg)]) (fun t k => XS.lconst Xj30.here hx rfl (B d12_134) (XS.lcmp Xj30.here hx rfl (B d12_135) rfl (XS.ifNo Xj30.here hx rfl (B d12_136) rfl (by decide) (XS.iinc Xj30.here hx rfl (B d12_139) rfl (l' := (Sh18 a1 su dg (CC fx bu 36) 0 7)) rfl (XS.goto Xj30.here hx rfl (pc0 := 142) (pc' := 125) rfl (B d12_142) (by decide) (by decide) (XS.iload Xj30.here hx rfl (B d12_125) rfl (XS.ifNo Xj30.here hx rfl (B d12_127) rfl (by decide) (XS.aloadN Xj30.here hx rfl (B d12_130) rfl rfl k)))))))) ?_
      refine GoW.sg (mkF m 133 (Sh18 a1 su dg (CC fx bu 36) 0 7) [(.int 7), (.ref dg)]) (fun t k => XS.iload Xj30.here hx rfl (B d12_131) rfl k) ?_
      refine GoW.sg (mkF m 134 (Sh18 a1 su dg (CC fx bu 36) 0 7) [(.long (dig mm 7))]) (fun t k => own_ldL Xj30 hx hZ ej30 M46 (i := 7) ⟨by decide, rfl, by decide⟩ (g := (mkF m 133 (Sh18 a1 su dg (CC fx bu 36) 0 7) [(.int 7), (.ref dg)])) rfl rfl (B d12_133) t k) ?_
      rw [show (dig mm 7) = (0 : Int64) from rfl]
      show GoW p e below s (Q12 Z a1 su dg a2 ka2 kdg fx ge bu sx h0 n0) 0 0 (Tj30.setTop (mkF m 134 (Sh18 a1 su dg (CC fx bu 36) 0 7) [(.long 0)]))
      refine GoW.sg (mkF m 131 (Sh18 a1 su dg (CC fx bu 36) 0 6) [(.ref dg)]) (fun t k => XS.lconst Xj30.here hx rfl (B d12_134) (XS.lcmp Xj30.here hx rfl (B d12_135) rfl (XS.ifNo Xj30.here hx rfl (B d12_136) rfl (by decide) (XS.iinc Xj30.here hx rfl (B d12_139) rfl (l' := (Sh18 a1 su dg (CC fx bu 36) 0 6)) rfl (XS.goto Xj30.here hx rfl (pc0 := 142) (pc' := 125) rfl (B d12_142) (by decide) (by decide) (XS.iload Xj30.here hx rfl (B d12_125) rfl (XS.ifNo Xj30.here hx rfl (B d12_127) rfl (by decide) (XS.aloadN Xj30.here hx rfl (B d12_130) rfl rfl k)))))))) ?_
      refine GoW.sg (mkF m 133 (Sh18 a1 su dg (CC fx bu 36) 0 6) [(.int 6), (.ref dg)]) (fun t k => XS.iload Xj30.here hx rfl (B d12_131) rfl k) ?_
      refine GoW.sg (mkF m 134 (Sh18 a1 su dg (CC fx bu 36) 0 6) [(.long (dig mm 6))]) (fun t k => own_ldL Xj30 hx hZ ej30 M46 (i := 6) ⟨by decide, rfl, by decide⟩ (g := (mkF m 133 (Sh18 a1 su dg (CC fx bu 36) 0 6) [(.int 6), (.ref dg)])) rfl rfl (B d12_133) t k) ?_
      rw [show (dig mm 6) = (0 : Int64) from rfl]
      show GoW p e below s (Q12 Z a1 su dg a2 ka2 kdg fx ge bu sx h0 n0) 0 0 (Tj30.setTop (mkF m 134 (Sh18 a1 su dg (CC fx bu 36) 0 6) [(.long 0)]))
      refine GoW.sg (mkF m 131 (Sh18 a1 su dg (CC fx bu 36) 0 5) [(.ref dg)]) (fun t k => XS.lconst Xj30.here hx rfl (B d12_134) (XS.lcmp Xj30.here hx rfl (B d12_135) rfl (XS.ifNo Xj30.here hx rfl (B d12_136) rfl (by decide) (XS.iinc Xj30.here hx rfl (B d12_139) rfl (l' := (Sh18 a1 su dg (CC fx bu 36) 0 5)) rfl (XS.goto Xj30.here hx rfl (pc0 := 142) (pc' := 125) rfl (B d12_142) (by decide) (by decide) (XS.iload Xj30.here hx rfl (B d12_125) rfl (XS.ifNo Xj30.here hx rfl (B d12_127) rfl (by decide) (XS.aloadN Xj30.here hx rfl (B d12_130) rfl rfl k)))))))) ?_
      refine GoW.sg (mkF m 133 (Sh18 a1 su dg (CC fx bu 36) 0 5) [(.int 5), (.ref dg)]) (fun t k => XS.iload Xj30.here hx rfl (B d12_131) rfl k) ?_
      refine GoW.sg (mkF m 134 (Sh18 a1 su dg (CC fx bu 36) 0 5) [(.long (dig mm 5))]) (fun t k => own_ldL Xj30 hx hZ ej30 M46 (i := 5) ⟨by decide, rfl, by decide⟩ (g := (mkF m 133 (Sh18 a1 su dg (CC fx bu 36) 0 5) [(.int 5), (.ref dg)])) rfl rfl (B d12_133) t k) ?_
      rw [show (dig mm 5) = (0 : Int64) from rfl]
      show GoW p e below s (Q12 Z a1 su dg a2 ka2 kdg fx ge bu sx h0 n0) 0 0 (Tj30.setTop (mkF m 134 (Sh18 a1 su dg (CC fx bu 36) 0 5) [(.long 0)]))
      refine GoW.sg (mkF m 131 (Sh18 a1 su dg (CC fx bu 36) 0 4) [(.ref dg)]) (fun t k => XS.lconst Xj30.here hx rfl (B d12_134) (XS.lcmp Xj30.here hx rfl (B d12_135) rfl (XS.ifNo Xj30.here hx rfl (B d12_136) rfl (by decide) (XS.iinc Xj30.here hx rfl (B d12_139) rfl (l' := (Sh18 a1 su dg (CC fx bu 36) 0 4)) rfl (XS.goto Xj30.here hx rfl (pc0 := 142) (pc' := 125) rfl (B d12_142) (by decide) (by decide) (XS.iload Xj30.here hx rfl (B d12_125) rfl (XS.ifNo Xj30.here hx rfl (B d12_127) rfl (by decide) (XS.aloadN Xj30.here hx rfl (B d12_130) rfl rfl k)))))))) ?_
      refine GoW.sg (mkF m 133 (Sh18 a1 su dg (CC fx bu 36) 0 4) [(.int 4), (.ref dg)]) (fun t k => XS.iload Xj30.here hx rfl (B d12_131) rfl k) ?_
      refine GoW.sg (mkF m 134 (Sh18 a1 su dg (CC fx bu 36) 0 4) [(.long (dig mm 4))]) (fun t k => own_ldL Xj30 hx hZ ej30 M46 (i := 4) ⟨by decide, rfl, by decide⟩ (g := (mkF m 133 (Sh18 a1 su dg (CC fx bu 36) 0 4) [(.int 4), (.ref dg)])) rfl rfl (B d12_133) t k) ?_
      rw [show (dig mm 4) = (0 : Int64) from rfl]
      show GoW p e below s (Q12 Z a1 su dg a2 ka2 kdg fx ge bu sx h0 n0) 0 0 (Tj30.setTop (mkF m 134 (Sh18 a1 su dg (CC fx bu 36) 0 4) [(.long 0)]))
      refine GoW.sg (mkF m 131 (Sh18 a1 su dg (CC fx bu 36) 0 3) [(.ref dg)]) (fun t k => XS.lconst Xj30.here hx rfl (B d12_134) (XS.lcmp Xj30.here hx rfl (B d12_135) rfl (XS.ifNo Xj30.here hx rfl (B d12_136) rfl (by decide) (XS.iinc Xj30.here hx rfl (B d12_139) rfl (l' := (Sh18 a1 su dg (CC fx bu 36) 0 3)) rfl (XS.goto Xj30.here hx rfl (pc0 := 142) (pc' := 125) rfl (B d12_142) (by decide) (by decide) (XS.iload Xj30.here hx rfl (B d12_125) rfl (XS.ifNo Xj30.here hx rfl (B d12_127) rfl (by decide) (XS.aloadN Xj30.here hx rfl (B d12_130) rfl rfl k)))))))) ?_
      refine GoW.sg (mkF m 133 (Sh18 a1 su dg (CC fx bu 36) 0 3) [(.int 3), (.ref dg)]) (fun t k => XS.iload Xj30.here hx rfl (B d12_131) rfl k) ?_
      refine GoW.sg (mkF m 134 (Sh18 a1 su dg (CC fx bu 36) 0 3) [(.long (dig mm 3))]) (fun t k => own_ldL Xj30 hx hZ ej30 M46 (i := 3) ⟨by decide, rfl, by decide⟩ (g := (mkF m 133 (Sh18 a1 su dg (CC fx bu 36) 0 3) [(.int 3), (.ref dg)])) rfl rfl (B d12_133) t k) ?_
      rw [show (dig mm 3) = (0 : Int64) from rfl]
      show GoW p e below s (Q12 Z a1 su dg a2 ka2 kdg fx ge bu sx h0 n0) 0 0 (Tj30.setTop (mkF m 134 (Sh18 a1 su dg (CC fx bu 36) 0 3) [(.long 0)]))
      refine GoW.sg (mkF m 131 (Sh18 a1 su dg (CC fx bu 36) 0 2) [(.ref dg)]) (fun t k => XS.lconst Xj30.here hx rfl (B d12_134) (XS.lcmp Xj30.here hx rfl (B d12_135) rfl (XS.ifNo Xj30.here hx rfl (B d12_136) rfl (by decide) (XS.iinc Xj30.here hx rfl (B d12_139) rfl (l' := (Sh18 a1 su dg (CC fx bu 36) 0 2)) rfl (XS.goto Xj30.here hx rfl (pc0 := 142) (pc' := 125) rfl (B d12_142) (by decide) (by decide) (XS.iload Xj30.here hx rfl (B d12_125) rfl (XS.ifNo Xj30.here hx rfl (B d12_127) rfl (by decide) (XS.aloadN Xj30.here hx rfl (B d12_130) rfl rfl k)))))))) ?_
      refine GoW.sg (mkF m 133 (Sh18 a1 su dg (CC fx bu 36) 0 2) [(.int 2), (.ref dg)]) (fun t k => XS.iload Xj30.here hx rfl (B d12_131) rfl k) ?_
      refine GoW.sg (mkF m 134 (Sh18 a1 su dg (CC fx bu 36) 0 2) [(.long (dig mm 2))]) (fun t k => own_ldL Xj30 hx hZ ej30 M46 (i := 2) ⟨by decide, rfl, by decide⟩ (g := (mkF m 133 (Sh18 a1 su dg (CC fx bu 36) 0 2) [(.int 2), (.ref dg)])) rfl rfl (B d12_133) t k) ?_
      rw [show (dig mm 2) = (0 : Int64) from rfl]
      show GoW p e below s (Q12 Z a1 su dg a2 ka2 kdg fx ge bu sx h0 n0) 0 0 (Tj30.setTop (mkF m 134 (Sh18 a1 su dg (CC fx bu 36) 0 2) [(.long 0)]))
      refine GoW.sg (mkF m 131 (Sh18 a1 su dg (CC fx bu 36) 0 1) [(.ref dg)]) (fun t k => XS.lconst Xj30.here hx rfl (B d12_134) (XS.lcmp Xj30.here hx rfl (B d12_135) rfl (XS.ifNo Xj30.here hx rfl (B d12_136) rfl (by decide) (XS.iinc Xj30.here hx rfl (B d12_139) rfl (l' := (Sh18 a1 su dg (CC fx bu 36) 0 1)) rfl (XS.goto Xj30.here hx rfl (pc0 := 142) (pc' := 125) rfl (B d12_142) (by decide) (by decide) (XS.iload Xj30.here hx rfl (B d12_125) rfl (XS.ifNo Xj30.here hx rfl (B d12_127) rfl (by decide) (XS.aloadN Xj30.here hx rfl (B d12_130) rfl rfl k)))))))) ?_
      refine GoW.sg (mkF m 133 (Sh18 a1 su dg (CC fx bu 36) 0 1) [(.int 1), (.ref dg)]) (fun t k => XS.iload Xj30.here hx rfl (B d12_131) rfl k) ?_
      refine GoW.sg (mkF m 134 (Sh18 a1 su dg (CC fx bu 36) 0 1) [(.long (dig mm 1))]) (fun t k => own_ldL Xj30 hx hZ ej30 M46 (i := 1) ⟨by decide, rfl, by decide⟩ (g := (mkF m 133 (Sh18 a1 su dg (CC fx bu 36) 0 1) [(.int 1), (.ref dg)])) rfl rfl (B d12_133) t k) ?_
      rw [show (dig mm 1) = (0 : Int64) from rfl]
      show GoW p e below s (Q12 Z a1 su dg a2 ka2 kdg fx ge bu sx h0 n0) 0 0 (Tj30.setTop (mkF m 134 (Sh18 a1 su dg (CC fx bu 36) 0 1) [(.long 0)]))
      refine GoW.sg (mkF m 131 (Sh18 a1 su dg (CC fx bu 36) 0 0) [(.ref dg)]) (fun t k => XS.lconst Xj30.here hx rfl (B d12_134) (XS.lcmp Xj30.here hx rfl (B d12_135) rfl (XS.ifNo Xj30.here hx rfl (B d12_136) rfl (by decide) (XS.iinc Xj30.here hx rfl (B d12_139) rfl (l' := (Sh18 a1 su dg (CC fx bu 36) 0 0)) rfl (XS.goto Xj30.here hx rfl (pc0 := 142) (pc' := 125) rfl (B d12_142) (by decide) (by decide) (XS.iload Xj30.here hx rfl (B d12_125) rfl (XS.ifNo Xj30.here hx rfl (B d12_127) rfl (by decide) (XS.aloadN Xj30.here hx rfl (B d12_130) rfl rfl k)))))))) ?_
      refine GoW.sg (mkF m 133 (Sh18 a1 su dg (CC fx bu 36) 0 0) [(.int 0), (.ref dg)]) (fun t k => XS.iload Xj30.here hx rfl (B d12_131) rfl k) ?_
      refine GoW.sg (mkF m 134 (Sh18 a1 su dg (CC fx bu 36) 0 0) [(.long (dig mm 0))]) (fun t k => own_ldL Xj30 hx hZ ej30 M46 (i := 0) ⟨by decide, rfl, by decide⟩ (g := (mkF m 133 (Sh18 a1 su dg (CC fx bu 36) 0 0) [(.int 0), (.ref dg)])) rfl rfl (B d12_133) t k) ?_
      rw [show (dig mm 0) = (0 : Int64) from rfl]
      show GoW p e below s (Q12 Z a1 su dg a2 ka2 kdg fx ge bu sx h0 n0) 0 0 (Tj30.setTop (mkF m 134 (Sh18 a1 su dg (CC fx bu 36) 0 0) [(.long 0)]))
      refine GoW.sg (mkF m 147 (Sh18 a1 su dg (CC fx bu 36) 0 (-1)) [(.int (-1))]) (fun t k => XS.lconst Xj30.here hx rfl (B d12_134) (XS.lcmp Xj30.here hx rfl (B d12_135) rfl (XS.ifNo Xj30.here hx rfl (B d12_136) rfl (by decide) (XS.iinc Xj30.here hx rfl (B d12_139) rfl (l' := (Sh18 a1 su dg (CC fx bu 36) 0 (-1))) rfl (XS.goto Xj30.here hx rfl (pc0 := 142) (pc' := 125) rfl (B d12_142) (by decide) (by decide) (XS.iload Xj30.here hx rfl (B d12_125) rfl (XS.ifYes Xj30.here hx rfl (pc0 := 127) (pc' := 145) rfl (B d12_127) rfl (by decide) (by decide) (by decide) (XS.iload Xj30.here hx rfl (B d12_145) rfl k)))))))) ?_
      refine GoW.sg (mkF m 151 (Sh18 a1 su dg (CC fx bu 36) 0 (-1)) [(.double 0)]) (fun t k => XS.ifNo Xj30.here hx rfl (B d12_147) rfl (by decide) (XS.dconst0 Xj30.here hx rfl (B d12_150) (by decide +kernel : FP.dconst0 = (0 : UInt64)) k)) ?_
      rw [show (0 : UInt64) = (FP.l2d sx) from own_z0 hs (own_m0 c48 c47 hm)]
      show GoW p e below s (Q12 Z a1 su dg a2 ka2 kdg fx ge bu sx h0 n0) 0 0 (Tj30.setTop (mkF m 151 (Sh18 a1 su dg (CC fx bu 36) 0 (-1)) [(.double (FP.l2d sx))]))
      refine GoW.retD Xj30 hx Bd.returns (B d12_151) Bd.notSynchronized ?_ (by decide) (by decide)
      rw [ej30]
      exact ⟨(dig mm), rfl, Nj30, j30_4, M46⟩
     ·refine GoW.sg (mkF m 157 (Sh18 a1 su dg (CC fx bu 36) 0 33) [(.int 33), (.int 32), (.ref dg)]) (fun t k => XS.ifYes Xj30.here hx rfl (pc0 := 136) (pc' := 145) rfl (B d12_136) rfl ((if0 _ _).trans (feq (mt (lw_eq _ _).mp c48)).2) (by decide) (by decide) (XS.iload Xj30.here hx rfl (B d12_145) rfl (XS.ifYes Xj30.here hx rfl (pc0 := 147) (pc' := 152) rfl (B d12_147) rfl (by decide) (by decide) (by decide) (XS.aloadN Xj30.here hx rfl (B d12_152) rfl rfl (XS.bipush Xj30.here hx rfl (B d12_153) (XS.iload Xj30.here hx rfl (B d12_155) rfl k)))))) ?_
      refine GoW.st (fun t k => XS.imul Xj30.here hx rfl (B d12_157) rfl k) ?_
      rw [show ((32 : Int32) * (33 : Int32)) = (1056 : Int32) from by decide]
      show GoW p e below s (Q12 Z a1 su dg a2 ka2 kdg fx ge bu sx h0 n0) 0 0 (Tj30.setTop (mkF m 158 (Sh18 a1 su dg (CC fx bu 36) 0 33) [(.int 1056), (.ref dg)]))
      refine GoW.sg (mkF m 160 (Sh18 a1 su dg (CC fx bu 36) 0 33) [(.int 64), (.int 1056), (.ref dg)]) (fun t k => XS.bipush Xj30.here hx rfl (B d12_158) k) ?_
      refine GoW.st (fun t k => XS.iadd Xj30.here hx rfl (B d12_160) rfl k) ?_
      rw [show ((1056 : Int32) + (64 : Int32)) = (1120 : Int32) from by decide]
      show GoW p e below s (Q12 Z a1 su dg a2 ka2 kdg fx ge bu sx h0 n0) 0 0 (Tj30.setTop (mkF m 161 (Sh18 a1 su dg (CC fx bu 36) 0 33) [(.int 1120), (.ref dg)]))
      refine GoW.sg (mkF m 164 (Sh18 a1 su dg (CC fx bu 36) 0 33) [(.int 33), (.ref dg), (.int 1120), (.ref dg)]) (fun t k => XS.aloadN Xj30.here hx rfl (B d12_161) rfl rfl (XS.iload Xj30.here hx rfl (B d12_162) rfl k)) ?_
      refine GoW.sg (mkF m 165 (Sh18 a1 su dg (CC fx bu 36) 0 33) [(.long (dig mm 33)), (.int 1120), (.ref dg)]) (fun t k => own_ldL Xj30 hx hZ ej30 M46 (i := 33) ⟨by decide, rfl, by decide⟩ (g := (mkF m 164 (Sh18 a1 su dg (CC fx bu 36) 0 33) [(.int 33), (.ref dg), (.int 1120), (.ref dg)])) rfl rfl (B d12_164) t k) ?_
      obtain ⟨_, T49, L49, X49, hQ49, st49⟩ := own_callS Xj30 hx hZ hown (y := Y13) (ww hw 59 rfl) (ww hw 60 rfl) (ww hw 61 rfl) (ww hw 62 rfl) (by decide) 2 (rm13 l Z a0 hw (dig mm 33) hj30 n0) (by decide) (by decide) ej30 (by decide) (by decide) (g := (mkF m 165 (Sh18 a1 su dg (CC fx bu 36) 0 33) [(.long (dig mm 33)), (.int 1120), (.ref dg)])) rfl (by rw [hml]; rfl) (argsL := [(.long (dig mm 33))]) (rest := [(.int (1120 : Int32)), (.ref dg)]) (lenOf pd_28J29I rfl) rfl (Nat.le_of_eq rfl) (B d12_165)
      obtain ⟨rfl, N49q, e49⟩ := hQ49
      have N49 := Fr.app Nj30 N49q
      refine GoW.sg (mkF m 168 (Sh18 a1 su dg (CC fx bu 36) 0 33) [(.int (F13 (dig mm 33))), (.int 1120), (.ref dg)]) (fun t k => st49 t k) ?_
      refine GoW.sg (mkF m 169 (Sh18 a1 su dg (CC fx bu 36) 0 33) [(.int ((1120 : Int32) - (F13 (dig mm 33)))), (.ref dg)]) (fun t k => XS.isub X49.here hx rfl (B d12_168) rfl k) ?_
      obtain ⟨_, T50, L50, X50, hQ50, st50⟩ := own_callS X49 hx hZ hown (y := Y15) (ww hw 68 rfl) (ww hw 69 rfl) (ww hw 2 rfl) (ww hw 70 rfl) (by decide) 0 (rm15 l Z a0 hw dg ((1120 : Int32) - (F13 (dig mm 33))) kdg mm hj30 n0  M46     (own_nr33 hm c47 c48)) (by decide) (by decide) e49 (by decide) (by decide) (g := (mkF m 169 (Sh18 a1 su dg (CC fx bu 36) 0 33) [(.int ((1120 : Int32) - (F13 (dig mm 33)))), (.ref dg)])) rfl (by rw [hml]; rfl) (argsL := [(.ref dg), (.int ((1120 : Int32) - (F13 (dig mm 33))))]) (rest := []) (lenOf pd_285bJI29J rfl) rfl (Nat.le_of_eq rfl) (B d12_169)
      obtain ⟨rfl, N50q, e50⟩ := hQ50
      have N50 := Fr.app N49 N50q
      refine GoW.sg (mkF m 172 (Sh18 a1 su dg (CC fx bu 36) 0 33) [(.long (lb mm))]) (fun t k => st50 t k) ?_
      obtain ⟨vm51, X51, st51⟩ := X50.longBitsToDouble hx hown (mvT hZ (ww hw 78 rfl)) (mvT hZ (ww hw 80 rfl)) (mvT hZ (ww hw 79 rfl)) (mvT hZ (ww hw 23 rfl)) (g := (mkF m 172 (Sh18 a1 su dg (CC fx bu 36) 0 33) [(.long (lb mm))])) rfl (by rw [hml]; rfl) (own_hv hm) rfl (B d12_172) (by decide) (by show 2 * 0 + 0 + (nativeFrameWords "java/lang/Double" "longBitsToDouble" 2 + 11) ≤ _; decide +kernel)
      have e51 : (T50.setVm vm51).heap = hj30 := e50
      refine GoW.sg (mkF m 175 (Sh18 a1 su dg (CC fx bu 36) 0 33) [(.double ((lb mm).toUInt64))]) (fun t k => st51 t k) ?_
      rw [show ((lb mm).toUInt64) = (FP.l2d (Int64.ofNat mm)) from rfl]
      show GoW p e below s (Q12 Z a1 su dg a2 ka2 kdg fx ge bu sx h0 n0) 0 0 ((T50.setVm vm51).setTop (mkF m 175 (Sh18 a1 su dg (CC fx bu 36) 0 33) [(.double (FP.l2d (Int64.ofNat mm)))]))
      refine GoW.sg (mkF m 190 (Sh19 a1 su dg (CC fx bu 36) 0 33 (FP.l2d (Int64.ofNat mm))) [(.double (FP.l2d (Int64.ofNat mm)))]) (fun t k => XS.dstore X51.here hx rfl (B d12_175) rfl (l' := (Sh19 a1 su dg (CC fx bu 36) 0 33 (FP.l2d (Int64.ofNat mm)))) rfl (XS.iload X51.here hx rfl (B d12_177) rfl (XS.ifYes X51.here hx rfl (pc0 := 179) (pc' := 188) rfl (B d12_179) rfl (by decide) (by decide) (by decide) (XS.dload X51.here hx rfl (B d12_188) rfl k)))) ?_
      rw [show (FP.l2d (Int64.ofNat mm)) = (FP.l2d sx) from by rw [hs]]
      show GoW p e below s (Q12 Z a1 su dg a2 ka2 kdg fx ge bu sx h0 n0) 0 0 ((T50.setVm vm51).setTop (mkF m 190 (Sh19 a1 su dg (CC fx bu 36) 0 33 (FP.l2d sx)) [(.double (FP.l2d sx))]))
      refine GoW.retD X51 hx Bd.returns (B d12_190) Bd.notSynchronized ?_ (by decide) (by decide)
      rw [e51]
      exact ⟨(dig mm), rfl, N50, j30_4, M46⟩
    ·refine GoW.sg (mkF m 157 (Sh18 a1 su dg (CC fx bu 36) 0 34) [(.int 34), (.int 32), (.ref dg)]) (fun t k => XS.ifYes Xj30.here hx rfl (pc0 := 136) (pc' := 145) rfl (B d12_136) rfl ((if0 _ _).trans (feq (mt (lw_eq _ _).mp c47)).2) (by decide) (by decide) (XS.iload Xj30.here hx rfl (B d12_145) rfl (XS.ifYes Xj30.here hx rfl (pc0 := 147) (pc' := 152) rfl (B d12_147) rfl (by decide) (by decide) (by decide) (XS.aloadN Xj30.here hx rfl (B d12_152) rfl rfl (XS.bipush Xj30.here hx rfl (B d12_153) (XS.iload Xj30.here hx rfl (B d12_155) rfl k)))))) ?_
     refine GoW.st (fun t k => XS.imul Xj30.here hx rfl (B d12_157) rfl k) ?_
     rw [show ((32 : Int32) * (34 : Int32)) = (1088 : Int32) from by decide]
     show GoW p e below s (Q12 Z a1 su dg a2 ka2 kdg fx ge bu sx h0 n0) 0 0 (Tj30.setTop (mkF m 158 (Sh18 a1 su dg (CC fx bu 36) 0 34) [(.int 1088), (.ref dg)]))
     refine GoW.sg (mkF m 160 (Sh18 a1 su dg (CC fx bu 36) 0 34) [(.int 64), (.int 1088), (.ref dg)]) (fun t k => XS.bipush Xj30.here hx rfl (B d12_158) k) ?_
     refine GoW.st (fun t k => XS.iadd Xj30.here hx rfl (B d12_160) rfl k) ?_
     rw [show ((1088 : Int32) + (64 : Int32)) = (1152 : Int32) from by decide]
     show GoW p e below s (Q12 Z a1 su dg a2 ka2 kdg fx ge bu sx h0 n0) 0 0 (Tj30.setTop (mkF m 161 (Sh18 a1 su dg (CC fx bu 36) 0 34) [(.int 1152), (.ref dg)]))
     refine GoW.sg (mkF m 164 (Sh18 a1 su dg (CC fx bu 36) 0 34) [(.int 34), (.ref dg), (.int 1152), (.ref dg)]) (fun t k => XS.aloadN Xj30.here hx rfl (B d12_161) rfl rfl (XS.iload Xj30.here hx rfl (B d12_162) rfl k)) ?_
     refine GoW.sg (mkF m 165 (Sh18 a1 su dg (CC fx bu 36) 0 34) [(.long (dig mm 34)), (.int 1152), (.ref dg)]) (fun t k => own_ldL Xj30 hx hZ ej30 M46 (i := 34) ⟨by decide, rfl, by decide⟩ (g := (mkF m 164 (Sh18 a1 su dg (CC fx bu 36) 0 34) [(.int 34), (.ref dg), (.int 1152), (.ref dg)])) rfl rfl (B d12_164) t k) ?_
     obtain ⟨_, T52, L52, X52, hQ52, st52⟩ := own_callS Xj30 hx hZ hown (y := Y13) (ww hw 59 rfl) (ww hw 60 rfl) (ww hw 61 rfl) (ww hw 62 rfl) (by decide) 2 (rm13 l Z a0 hw (dig mm 34) hj30 n0) (by decide) (by decide) ej30 (by decide) (by decide) (g := (mkF m 165 (Sh18 a1 su dg (CC fx bu 36) 0 34) [(.long (dig mm 34)), (.int 1152), (.ref dg)])) rfl (by rw [hml]; rfl) (argsL := [(.long (dig mm 34))]) (rest := [(.int (1152 : Int32)), (.ref dg)]) (lenOf pd_28J29I rfl) rfl (Nat.le_of_eq rfl) (B d12_165)
     obtain ⟨rfl, N52q, e52⟩ := hQ52
     have N52 := Fr.app Nj30 N52q
     refine GoW.sg (mkF m 168 (Sh18 a1 su dg (CC fx bu 36) 0 34) [(.int (F13 (dig mm 34))), (.int 1152), (.ref dg)]) (fun t k => st52 t k) ?_
     refine GoW.sg (mkF m 169 (Sh18 a1 su dg (CC fx bu 36) 0 34) [(.int ((1152 : Int32) - (F13 (dig mm 34)))), (.ref dg)]) (fun t k => XS.isub X52.here hx rfl (B d12_168) rfl k) ?_
     obtain ⟨_, T53, L53, X53, hQ53, st53⟩ := own_callS X52 hx hZ hown (y := Y15) (ww hw 68 rfl) (ww hw 69 rfl) (ww hw 2 rfl) (ww hw 70 rfl) (by decide) 0 (rm15 l Z a0 hw dg ((1152 : Int32) - (F13 (dig mm 34))) kdg mm hj30 n0  M46     (own_nr34 hm c47)) (by decide) (by decide) e52 (by decide) (by decide) (g := (mkF m 169 (Sh18 a1 su dg (CC fx bu 36) 0 34) [(.int ((1152 : Int32) - (F13 (dig mm 34)))), (.ref dg)])) rfl (by rw [hml]; rfl) (argsL := [(.ref dg), (.int ((1152 : Int32) - (F13 (dig mm 34))))]) (rest := []) (lenOf pd_285bJI29J rfl) rfl (Nat.le_of_eq rfl) (B d12_169)
     obtain ⟨rfl, N53q, e53⟩ := hQ53
     have N53 := Fr.app N52 N53q
     refine GoW.sg (mkF m 172 (Sh18 a1 su dg (CC fx bu 36) 0 34) [(.long (lb mm))]) (fun t k => st53 t k) ?_
     obtain ⟨vm54, X54, st54⟩ := X53.longBitsToDouble hx hown (mvT hZ (ww hw 78 rfl)) (mvT hZ (ww hw 80 rfl)) (mvT hZ (ww hw 79 rfl)) (mvT hZ (ww hw 23 rfl)) (g := (mkF m 172 (Sh18 a1 su dg (CC fx bu 36) 0 34) [(.long (lb mm))])) rfl (by rw [hml]; rfl) (own_hv hm) rfl (B d12_172) (by decide) (by show 2 * 0 + 0 + (nativeFrameWords "java/lang/Double" "longBitsToDouble" 2 + 11) ≤ _; decide +kernel)
     have e54 : (T53.setVm vm54).heap = hj30 := e53
     refine GoW.sg (mkF m 175 (Sh18 a1 su dg (CC fx bu 36) 0 34) [(.double ((lb mm).toUInt64))]) (fun t k => st54 t k) ?_
     rw [show ((lb mm).toUInt64) = (FP.l2d (Int64.ofNat mm)) from rfl]
     show GoW p e below s (Q12 Z a1 su dg a2 ka2 kdg fx ge bu sx h0 n0) 0 0 ((T53.setVm vm54).setTop (mkF m 175 (Sh18 a1 su dg (CC fx bu 36) 0 34) [(.double (FP.l2d (Int64.ofNat mm)))]))
     refine GoW.sg (mkF m 190 (Sh19 a1 su dg (CC fx bu 36) 0 34 (FP.l2d (Int64.ofNat mm))) [(.double (FP.l2d (Int64.ofNat mm)))]) (fun t k => XS.dstore X54.here hx rfl (B d12_175) rfl (l' := (Sh19 a1 su dg (CC fx bu 36) 0 34 (FP.l2d (Int64.ofNat mm)))) rfl (XS.iload X54.here hx rfl (B d12_177) rfl (XS.ifYes X54.here hx rfl (pc0 := 179) (pc' := 188) rfl (B d12_179) rfl (by decide) (by decide) (by decide) (XS.dload X54.here hx rfl (B d12_188) rfl k)))) ?_
     rw [show (FP.l2d (Int64.ofNat mm)) = (FP.l2d sx) from by rw [hs]]
     show GoW p e below s (Q12 Z a1 su dg a2 ka2 kdg fx ge bu sx h0 n0) 0 0 ((T53.setVm vm54).setTop (mkF m 190 (Sh19 a1 su dg (CC fx bu 36) 0 34 (FP.l2d sx)) [(.double (FP.l2d sx))]))
     refine GoW.retD X54 hx Bd.returns (B d12_190) Bd.notSynchronized ?_ (by decide) (by decide)
     rw [e54]
     exact ⟨(dig mm), rfl, N53, j30_4, M46⟩
  | succ d ih30 =>
   intro i30 hi30 Tj30 Lj30 hj30 u6 Xj30 ej30 Nj30 j30_0 j30_1 j30_2 j30_3 j30_4
   have hl30 : i30 < 36 := by omega
   have hc30 : (Int32.ofNat i30) < (36 : Int32) := own_ltN (n := 36) (by decide) hl30
   refine GoW.sg (mkF m 13 (Sh13 a1 su dg (CC fx bu i30) (Int32.ofNat i30) u6) [(.ref a1)]) (fun t k => XS.iload Xj30.here hx rfl (B d12_5) rfl (XS.bipush Xj30.here hx rfl (B d12_7) (XS.icmpNo Xj30.here hx rfl (B d12_9) rfl (tlt hc30).2.1 (XS.aloadN Xj30.here hx rfl (B d12_12) rfl rfl k)))) ?_
   obtain ⟨T55, X55, e55, st55⟩ := getF Xj30 hx hZ hown (host := "") (Or.inl (ww hw 14 rfl)) Via.refl ej30 j30_1 (g := (mkF m 13 (Sh13 a1 su dg (CC fx bu i30) (Int32.ofNat i30) u6) [(.ref a1)])) rfl rfl (B d12_13)
   refine GoW.sg (mkF m 16 (Sh13 a1 su dg (CC fx bu i30) (Int32.ofNat i30) u6) [(.ref a2)]) (fun t k => st55 t k) ?_
   refine GoW.sg (mkF m 23 (Sh13 a1 su dg (CC fx bu i30) (Int32.ofNat i30) u6) [(.int ((su * (36 : Int32)) + (Int32.ofNat i30))), (.ref a2)]) (fun t k => XS.iloadN X55.here hx rfl (B d12_16) rfl (XS.bipush X55.here hx rfl (B d12_17) (XS.imul X55.here hx rfl (B d12_19) rfl (XS.iload X55.here hx rfl (B d12_20) rfl (XS.iadd X55.here hx rfl (B d12_22) rfl k))))) ?_
   refine GoW.sg (mkF m 24 (Sh13 a1 su dg (CC fx bu i30) (Int32.ofNat i30) u6) [(.long (fx (bu + i30)))]) (fun t k => own_ldL X55 hx hZ e55 j30_2 (i := bu + i30) (own_ixB hb hl30) (g := (mkF m 23 (Sh13 a1 su dg (CC fx bu i30) (Int32.ofNat i30) u6) [(.int ((su * (36 : Int32)) + (Int32.ofNat i30))), (.ref a2)])) rfl rfl (B d12_23) t k) ?_
   refine GoW.sg (mkF m 33 (Sh13 a1 su dg (CC fx bu i30) (Int32.ofNat i30) ((fx (bu + i30)) + (CC fx bu i30))) [(.long ((fx (bu + i30)) + (CC fx bu i30))), (.int (Int32.ofNat i30)), (.ref dg)]) (fun t k => XS.lloadN X55.here hx rfl (B d12_24) rfl (XS.ladd X55.here hx rfl (B d12_25) rfl (XS.lstore X55.here hx rfl (B d12_26) rfl (l' := (Sh13 a1 su dg (CC fx bu i30) (Int32.ofNat i30) ((fx (bu + i30)) + (CC fx bu i30)))) rfl (XS.aloadN X55.here hx rfl (B d12_28) rfl rfl (XS.iload X55.here hx rfl (B d12_29) rfl (XS.lload X55.here hx rfl (B d12_31) rfl k)))))) ?_
   refine GoW.sg (mkF m 36 (Sh13 a1 su dg (CC fx bu i30) (Int32.ofNat i30) ((fx (bu + i30)) + (CC fx bu i30))) [(.long 4294967295), (.long ((fx (bu + i30)) + (CC fx bu i30))), (.int (Int32.ofNat i30)), (.ref dg)]) (fun t k => X55.ldc2Long hx hown (mvT hZ (ww hw 43 rfl)) (g := (mkF m 33 (Sh13 a1 su dg (CC fx bu i30) (Int32.ofNat i30) ((fx (bu + i30)) + (CC fx bu i30))) [(.long ((fx (bu + i30)) + (CC fx bu i30))), (.int (Int32.ofNat i30)), (.ref dg)])) rfl (B d12_33) t k) ?_
   refine GoW.sg (mkF m 37 (Sh13 a1 su dg (CC fx bu i30) (Int32.ofNat i30) ((fx (bu + i30)) + (CC fx bu i30))) [(.long (((fx (bu + i30)) + (CC fx bu i30)) &&& (4294967295 : Int64))), (.int (Int32.ofNat i30)), (.ref dg)]) (fun t k => XS.land X55.here hx rfl (B d12_36) rfl k) ?_
   obtain ⟨T56, h56, X56, e56, W56, M56, st56⟩ := own_stL X55 hx hZ e55 j30_3 (i := i30) (own_ixN (n := 36) rfl (by decide) hl30) (g := (mkF m 37 (Sh13 a1 su dg (CC fx bu i30) (Int32.ofNat i30) ((fx (bu + i30)) + (CC fx bu i30))) [(.long (((fx (bu + i30)) + (CC fx bu i30)) &&& (4294967295 : Int64))), (.int (Int32.ofNat i30)), (.ref dg)])) rfl rfl (B d12_37)
   have f56_13 := j30_0.wr W56
   have f56_14 := j30_1.other W56 (Or.inl ne_a1_dg)
   have f56_15 := j30_2.other W56 ne_a2_dg
   have f56_16 := j30_4.wr W56 (Or.inl (List.mem_of_getElem? (i := 0) rfl))
   have N56 := Fr.snoc X56 Nj30 g_dg
   refine GoW.sg (mkF m 38 (Sh13 a1 su dg (CC fx bu i30) (Int32.ofNat i30) ((fx (bu + i30)) + (CC fx bu i30))) []) (fun t k => st56 t k) ?_
   refine GoW.sg (mkF m 5 (Sh13 a1 su dg (((fx (bu + i30)) + (CC fx bu i30)) >>> ((32 : Int32) &&& 0x3f).toInt64) ((Int32.ofNat i30) + (1 : Int32)) ((fx (bu + i30)) + (CC fx bu i30))) []) (fun t k => XS.lload X56.here hx rfl (B d12_38) rfl (XS.bipush X56.here hx rfl (B d12_40) (XS.lshr X56.here hx rfl (B d12_42) rfl (XS.lstoreN X56.here hx rfl (B d12_43) rfl (l' := (Sh13 a1 su dg (((fx (bu + i30)) + (CC fx bu i30)) >>> ((32 : Int32) &&& 0x3f).toInt64) (Int32.ofNat i30) ((fx (bu + i30)) + (CC fx bu i30)))) rfl (XS.iinc X56.here hx rfl (B d12_44) rfl (l' := (Sh13 a1 su dg (((fx (bu + i30)) + (CC fx bu i30)) >>> ((32 : Int32) &&& 0x3f).toInt64) ((Int32.ofNat i30) + (1 : Int32)) ((fx (bu + i30)) + (CC fx bu i30)))) rfl (XS.goto X56.here hx rfl (pc0 := 47) (pc' := 5) rfl (B d12_47) (by decide) (by decide) k)))))) ?_
   rw [show ((Int32.ofNat i30) + (1 : Int32)) = (Int32.ofNat (i30 + 1)) from own_inc i30]
   show GoW p e below s (Q12 Z a1 su dg a2 ka2 kdg fx ge bu sx h0 n0) 0 0 (T56.setTop (mkF m 5 (Sh13 a1 su dg (((fx (bu + i30)) + (CC fx bu i30)) >>> ((32 : Int32) &&& 0x3f).toInt64) (Int32.ofNat (i30 + 1)) ((fx (bu + i30)) + (CC fx bu i30))) []))
   rw [show (((fx (bu + i30)) + (CC fx bu i30)) >>> ((32 : Int32) &&& 0x3f).toInt64) = (CC fx bu (i30 + 1)) from rfl]
   show GoW p e below s (Q12 Z a1 su dg a2 ka2 kdg fx ge bu sx h0 n0) 0 0 (T56.setTop (mkF m 5 (Sh13 a1 su dg (CC fx bu (i30 + 1)) (Int32.ofNat (i30 + 1)) ((fx (bu + i30)) + (CC fx bu i30))) []))
   have M57 : Lon Z h56 dg kdg (36 : Int32) (DD fx bu ge (i30 + 1)) := M56.cong (fun t ht => own_DDs _ _ _ _ t)
   exact ih30 (i30 + 1) (by omega) _ _ _ _ X56 e56 N56 f56_13 f56_14 f56_15 M57 f56_16
 have M58 : Lon Z h29 dg kdg (36 : Int32) (DD fx bu ge 1) := M29.cong (fun t ht => own_DD0 _ _ _ t)
 exact J30 35 1 rfl _ _ _ _ X29 e29 N29 f29_1 f29_2 f29_3 M58 f29_4
def Q11 (Z : State) (a1 a2 : Addr) (ka2 : ClassId) (fx : Nat → Int64) (sx sy : Int64) (h0 : Heap) (n0 : Nat) (v : Option Value) (h : Heap) (L : List Loc) : Prop := ∃ e0 : Addr, ∃ ke0 : ClassId, v = some (.ref e0) ∧ Fr n0 L ∧ (Keep h0 h []) ∧ (Arv Z h e0 ke0 .double 2 [(.double (FP.l2d sx)), (.double (FP.l2d sy))] (.double 0)) ∧ (h0.size ≤ e0)
theorem rm11 (l : Launch) (Z : State) (a0 : Array Value) (hw : HW a0 Z) (a1 a2 : Addr) (ka2 : ClassId) (fx : Nat → Int64) (sx sy : Int64) (h0 : Heap) (n0 : Nat) (Z0 : n0 ≤ h0.size) (P0 : Exa Z h0 a1 "com/example/nearterm/nearterm/embedding/ExactSums") (P1 : Fld Z h0 a1 "com/example/nearterm/nearterm/embedding/ExactSums" "limbs" "[J" (.ref a2)) (P2 : Lon Z h0 a2 ka2 (72 : Int32) fx) (hS1 : SumOK fx 0 sx) (hS2 : SumOK fx 36 sy) :
  MM l Z Y11 prog_7_method_13_code 4 (some (.array .double)) 3 2 38 58 #[(.ref a1)] h0 (Q11 Z a1 a2 ka2 fx sx sy h0 n0) := by
 refine own_start (fun m => (mkF m 0 (Sh20 a1) [])) (plainFor_of_name pn_com_example_nearterm_nearterm_embedding_ExactSums) (by simp [entryFrame, mkF, argsToLocals, Value.category]) n0 ?_
 intro p e s m below meth c s₁ Bd hx B hml hZ hown hnm X0 e0 N0
 refine GoW.sg (mkF m 2 (Sh20 a1) [(.int 36)]) (fun t k => XS.bipush X0.here hx rfl (B d11_0) k) ?_
 obtain ⟨T59, h59, k59, X59, e59, E59, A59, st59⟩ := newP X0 hx hZ (ww hw 13 rfl) e0 (g := (mkF m 2 (Sh20 a1) [(.int 36)])) rfl (B d11_2) rfl (by decide) (cap := 36) (by decide) (by decide) (by decide) (by decide)
 obtain ⟨b59, g59⟩ : ∃ z, z = h0.size := ⟨_, rfl⟩
 rw [← g59] at A59 st59
 have g_b59 : n0 ≤ b59 := Nat.le_trans Z0 (Nat.le_of_eq g59.symm)
 have sz_b59 : h0.size ≤ b59 := Nat.le_trans (Keep.refl h0 []).1 (Nat.le_of_eq g59.symm)
 have ne_a1_b59 : a1 ≠ b59 := Nat.ne_of_lt (Nat.lt_of_lt_of_eq P0.lt g59.symm)
 have ne_a2_b59 : a2 ≠ b59 := Nat.ne_of_lt (Nat.lt_of_lt_of_eq P2.lt g59.symm)
 have f59_1 := P0.ext E59
 have f59_2 := P1.ext E59
 have f59_3 := P2.ext E59
 have f59_4 := (Keep.refl h0 []).ext E59
 have f59_5 := Nat.le_trans Z0 E59.1
 have M59 : Lon Z h59 b59 k59 (36 : Int32) (fun _ => 0) := Lon.new A59 (by decide)
 refine GoW.sg (mkF m 4 (Sh20 a1) [(.ref b59)]) (fun t k => st59 t k) ?_
 refine GoW.sg (mkF m 6 (Sh21 a1 b59) [(.ref a1)]) (fun t k => XS.astoreN X59.here hx rfl (B d11_4) rfl rfl (l' := (Sh21 a1 b59)) rfl (XS.aloadN X59.here hx rfl (B d11_5) rfl rfl k)) ?_
 obtain ⟨T60, X60, e60, st60⟩ := getF X59 hx hZ hown (host := "") (Or.inl (ww hw 14 rfl)) Via.refl e59 f59_2 (g := (mkF m 6 (Sh21 a1 b59) [(.ref a1)])) rfl rfl (B d11_6)
 refine GoW.sg (mkF m 9 (Sh21 a1 b59) [(.ref a2)]) (fun t k => st60 t k) ?_
 refine GoW.sg (mkF m 10 (Sh21 a1 b59) [(.int 72)]) (fun t k => own_lenL X60 hx hZ e60 f59_3 (g := (mkF m 9 (Sh21 a1 b59) [(.ref a2)])) rfl rfl (B d11_9) t k) ?_
 refine GoW.sg (mkF m 12 (Sh21 a1 b59) [(.int 36), (.int 72)]) (fun t k => XS.bipush X60.here hx rfl (B d11_10) k) ?_
 refine GoW.st (fun t k => XS.idiv X60.here hx rfl (B d11_12) rfl (by decide) k) ?_
 rw [show ((72 : Int32) / (36 : Int32)) = (2 : Int32) from by decide]
 show GoW p e below s (Q11 Z a1 a2 ka2 fx sx sy h0 n0) 2 38 (T60.setTop (mkF m 13 (Sh21 a1 b59) [(.int 2)]))
 obtain ⟨T61, h61, k61, X61, e61, E61, A61, st61⟩ := newP X60 hx hZ (ww hw 54 rfl) e60 (g := (mkF m 13 (Sh21 a1 b59) [(.int 2)])) rfl (B d11_13) rfl (by decide) (cap := 2) (by decide) (by decide) (by decide) (by decide)
 obtain ⟨b61, g61⟩ : ∃ z, z = h59.size := ⟨_, rfl⟩
 rw [← g61] at A61 st61
 have g_b61 : n0 ≤ b61 := Nat.le_trans f59_5 (Nat.le_of_eq g61.symm)
 have sz_b61 : h0.size ≤ b61 := Nat.le_trans f59_4.1 (Nat.le_of_eq g61.symm)
 have ne_a1_b61 : a1 ≠ b61 := Nat.ne_of_lt (Nat.lt_of_lt_of_eq f59_1.lt g61.symm)
 have ne_a2_b61 : a2 ≠ b61 := Nat.ne_of_lt (Nat.lt_of_lt_of_eq f59_3.lt g61.symm)
 have ne_b59_b61 : b59 ≠ b61 := Nat.ne_of_lt (Nat.lt_of_lt_of_eq M59.lt g61.symm)
 have f61_6 := f59_1.ext E61
 have f61_7 := f59_2.ext E61
 have f61_8 := f59_3.ext E61
 have f61_9 := f59_4.ext E61
 have f61_11 := M59.ext E61
 have V61 : Arv Z h61 b61 k61 .double (2 : Int32) [(.double (0 : UInt64)), (.double (0 : UInt64))] (.double (0 : UInt64)) := (Arv.new A61 (by decide)).pad (pad_rep [] (.double (0 : UInt64)) 2)
 refine GoW.sg (mkF m 15 (Sh21 a1 b59) [(.ref b61)]) (fun t k => st61 t k) ?_
 refine GoW.sg (mkF m 20 (Sh23 a1 b59 b61 0) [(.ref b61), (.int 0)]) (fun t k => XS.astoreN X61.here hx rfl (B d11_15) rfl rfl (l' := (Sh22 a1 b59 b61)) rfl (XS.iconst X61.here hx rfl (B d11_16) (XS.istoreN X61.here hx rfl (B d11_17) rfl (l' := (Sh23 a1 b59 b61 0)) rfl (XS.iloadN X61.here hx rfl (B d11_18) rfl (XS.aloadN X61.here hx rfl (B d11_19) rfl rfl k))))) ?_
 obtain ⟨cl62, Ar62, q62, Sz62, Nn62, Hh62, Gg62⟩ := id V61
 have st62 := X61.arraylength hx (hq_ e61 Ar62.1) (State.isArrayOf_alike hZ.alike Ar62.2.1) (g := (mkF m 20 (Sh23 a1 b59 b61 0) [(.ref b61), (.int 0)])) rfl rfl (B d11_20)
 rw [len_of Sz62 Nn62] at st62
 refine GoW.sg (mkF m 21 (Sh23 a1 b59 b61 0) [(.int 2), (.int 0)]) (fun t k => st62 t k) ?_
 refine GoW.sg (mkF m 29 (Sh23 a1 b59 b61 0) [(.ref b59), (.int 0), (.ref a1), (.int 0), (.ref b61)]) (fun t k => XS.icmpNo X61.here hx rfl (B d11_21) rfl (by decide) (XS.aloadN X61.here hx rfl (B d11_24) rfl rfl (XS.iloadN X61.here hx rfl (B d11_25) rfl (XS.aloadN X61.here hx rfl (B d11_26) rfl rfl (XS.iloadN X61.here hx rfl (B d11_27) rfl (XS.aloadN X61.here hx rfl (B d11_28) rfl rfl k)))))) ?_
 obtain ⟨_, T63, L63, X63, hQ63, st63⟩ := own_priv X61 hx hZ (y := Y12) hown (ww hw 55 rfl) (ww hw 57 rfl) (ww hw 1 rfl) (ww hw 56 rfl) (ww hw 58 rfl) (ww hw 2 rfl) (by decide) 2 (a := a1) (rm12 l Z a0 hw a1 (0 : Int32) b59 a2 ka2 k59 fx (fun _ => 0) 0 sx h61 n0  f61_6 f61_7 f61_8 f61_11 g_b59 ne_a1_b59 ne_a2_b59   (Or.inl ⟨rfl, rfl⟩) hS1) (by decide) (by decide) e61 f61_6 (by decide) (by decide) (g := (mkF m 29 (Sh23 a1 b59 b61 0) [(.ref b59), (.int 0), (.ref a1), (.int 0), (.ref b61)])) rfl (by rw [hml]; rfl) (argsL := [(.int (0 : Int32)), (.ref b59)]) (rest := [(.int (0 : Int32)), (.ref b61)]) (lenOf pd_28I5bJ29D rfl) rfl (Nat.le_of_eq rfl) (B d11_29)
 obtain ⟨k63_gz, rfl, N63q, K63, p63_0⟩ := hQ63
 have N63 := Fr.app N0 N63q
 have f63_12 := f61_6.keep K63
 have f63_13 := f61_7.keep K63 (ninS ne_a1_b59 nin0)
 have f63_14 := f61_8.keep K63 (ninS ne_a2_b59 nin0)
 have f63_15 := f61_9.trans K63 (allS (Or.inr sz_b59) all0)
 have f63_17 := V61.keep K63 (ninS (Ne.symm ne_b59_b61) nin0)
 refine GoW.sg (mkF m 32 (Sh23 a1 b59 b61 0) [(.double (FP.l2d sx)), (.int 0), (.ref b61)]) (fun t k => st63 t k) ?_
 obtain ⟨cl64, Ar64, q64, Sz64, Nn64, Hh64, Gg64⟩ := f63_17
 have hin64 : ¬ ((0 : Int32) < 0 ∨ cl64.slots.size ≤ ((0 : Int32)).toNatClampNeg) := inb_of Sz64 ⟨by decide, by decide⟩
 obtain ⟨T64, h64, X64, e64, W64, st64⟩ := stD X63 hx hZ rfl Ar64 (j := (0 : Int32)) hin64 (g := (mkF m 32 (Sh23 a1 b59 b61 0) [(.double (FP.l2d sx)), (.int 0), (.ref b61)])) rfl rfl (B d11_32)
 have f64_18 := f63_12.wr W64
 have f64_19 := f63_13.other W64 (Or.inl ne_a1_b61)
 have f64_20 := f63_14.other W64 ne_a2_b61
 have f64_21 := f63_15.wr W64 (Or.inr sz_b61)
 have f64_23 := p63_0.other W64 ne_b59_b61
 have V64 : Arv Z h64 b61 k61 .double (2 : Int32) [(.double (FP.l2d sx)), (.double (0 : UInt64))] (.double (0 : UInt64)) := Arv.set Ar64 q64 Sz64 Nn64 Hh64 Gg64 rfl W64 0 rfl (Nat.le_of_ble_eq_true rfl)
 have N64 := Fr.snoc X64 N63 g_b61
 refine GoW.sg (mkF m 33 (Sh23 a1 b59 b61 0) []) (fun t k => st64 t k) ?_
 refine GoW.sg (mkF m 20 (Sh23 a1 b59 b61 1) [(.ref b61), (.int 1)]) (fun t k => XS.iinc X64.here hx rfl (B d11_33) rfl (l' := (Sh23 a1 b59 b61 1)) rfl (XS.goto X64.here hx rfl (pc0 := 36) (pc' := 18) rfl (B d11_36) (by decide) (by decide) (XS.iloadN X64.here hx rfl (B d11_18) rfl (XS.aloadN X64.here hx rfl (B d11_19) rfl rfl k)))) ?_
 obtain ⟨cl65, Ar65, q65, Sz65, Nn65, Hh65, Gg65⟩ := id V64
 have st65 := X64.arraylength hx (hq_ e64 Ar65.1) (State.isArrayOf_alike hZ.alike Ar65.2.1) (g := (mkF m 20 (Sh23 a1 b59 b61 1) [(.ref b61), (.int 1)])) rfl rfl (B d11_20)
 rw [len_of Sz65 Nn65] at st65
 refine GoW.sg (mkF m 21 (Sh23 a1 b59 b61 1) [(.int 2), (.int 1)]) (fun t k => st65 t k) ?_
 refine GoW.sg (mkF m 29 (Sh23 a1 b59 b61 1) [(.ref b59), (.int 1), (.ref a1), (.int 1), (.ref b61)]) (fun t k => XS.icmpNo X64.here hx rfl (B d11_21) rfl (by decide) (XS.aloadN X64.here hx rfl (B d11_24) rfl rfl (XS.iloadN X64.here hx rfl (B d11_25) rfl (XS.aloadN X64.here hx rfl (B d11_26) rfl rfl (XS.iloadN X64.here hx rfl (B d11_27) rfl (XS.aloadN X64.here hx rfl (B d11_28) rfl rfl k)))))) ?_
 obtain ⟨_, T66, L66, X66, hQ66, st66⟩ := own_priv X64 hx hZ (y := Y12) hown (ww hw 55 rfl) (ww hw 57 rfl) (ww hw 1 rfl) (ww hw 56 rfl) (ww hw 58 rfl) (ww hw 2 rfl) (by decide) 2 (a := a1) (rm12 l Z a0 hw a1 (1 : Int32) b59 a2 ka2 k59 fx k63_gz 36 sy h64 n0  f64_18 f64_19 f64_20 f64_23 g_b59 ne_a1_b59 ne_a2_b59   (Or.inr ⟨rfl, rfl⟩) hS2) (by decide) (by decide) e64 f64_18 (by decide) (by decide) (g := (mkF m 29 (Sh23 a1 b59 b61 1) [(.ref b59), (.int 1), (.ref a1), (.int 1), (.ref b61)])) rfl (by rw [hml]; rfl) (argsL := [(.int (1 : Int32)), (.ref b59)]) (rest := [(.int (1 : Int32)), (.ref b61)]) (lenOf pd_28I5bJ29D rfl) rfl (Nat.le_of_eq rfl) (B d11_29)
 obtain ⟨k66_gz, rfl, N66q, K66, p66_0⟩ := hQ66
 have N66 := Fr.app N64 N66q
 have f66_27 := f64_21.trans K66 (allS (Or.inr sz_b59) all0)
 have f66_29 := V64.keep K66 (ninS (Ne.symm ne_b59_b61) nin0)
 refine GoW.sg (mkF m 32 (Sh23 a1 b59 b61 1) [(.double (FP.l2d sy)), (.int 1), (.ref b61)]) (fun t k => st66 t k) ?_
 obtain ⟨cl67, Ar67, q67, Sz67, Nn67, Hh67, Gg67⟩ := f66_29
 have hin67 : ¬ ((1 : Int32) < 0 ∨ cl67.slots.size ≤ ((1 : Int32)).toNatClampNeg) := inb_of Sz67 ⟨by decide, by decide⟩
 obtain ⟨T67, h67, X67, e67, W67, st67⟩ := stD X66 hx hZ rfl Ar67 (j := (1 : Int32)) hin67 (g := (mkF m 32 (Sh23 a1 b59 b61 1) [(.double (FP.l2d sy)), (.int 1), (.ref b61)])) rfl rfl (B d11_32)
 have f67_33 := f66_27.wr W67 (Or.inr sz_b61)
 have V67 : Arv Z h67 b61 k61 .double (2 : Int32) [(.double (FP.l2d sx)), (.double (FP.l2d sy))] (.double (0 : UInt64)) := Arv.set Ar67 q67 Sz67 Nn67 Hh67 Gg67 rfl W67 1 rfl (Nat.le_of_ble_eq_true rfl)
 have N67 := Fr.snoc X67 N66 g_b61
 refine GoW.sg (mkF m 33 (Sh23 a1 b59 b61 1) []) (fun t k => st67 t k) ?_
 refine GoW.sg (mkF m 20 (Sh23 a1 b59 b61 2) [(.ref b61), (.int 2)]) (fun t k => XS.iinc X67.here hx rfl (B d11_33) rfl (l' := (Sh23 a1 b59 b61 2)) rfl (XS.goto X67.here hx rfl (pc0 := 36) (pc' := 18) rfl (B d11_36) (by decide) (by decide) (XS.iloadN X67.here hx rfl (B d11_18) rfl (XS.aloadN X67.here hx rfl (B d11_19) rfl rfl k)))) ?_
 obtain ⟨cl68, Ar68, q68, Sz68, Nn68, Hh68, Gg68⟩ := id V67
 have st68 := X67.arraylength hx (hq_ e67 Ar68.1) (State.isArrayOf_alike hZ.alike Ar68.2.1) (g := (mkF m 20 (Sh23 a1 b59 b61 2) [(.ref b61), (.int 2)])) rfl rfl (B d11_20)
 rw [len_of Sz68 Nn68] at st68
 refine GoW.sg (mkF m 21 (Sh23 a1 b59 b61 2) [(.int 2), (.int 2)]) (fun t k => st68 t k) ?_
 refine GoW.sg (mkF m 40 (Sh23 a1 b59 b61 2) [(.ref b61)]) (fun t k => XS.icmpYes X67.here hx rfl (pc0 := 21) (pc' := 39) rfl (B d11_21) rfl (by decide) (by decide) (by decide) (XS.aloadN X67.here hx rfl (B d11_39) rfl rfl k)) ?_
 refine GoW.retA X67 hx Bd.returns rfl rfl rfl (B d11_40) Bd.notSynchronized ?_ (by decide) (by decide)
 rw [e67]
 exact ⟨b61, k61, rfl, N67, f67_33, V67, sz_b61⟩
def Q9 (Z : State) (a1 : Addr) (su ps : Int32) (mg sg : Int64) (a2 : Addr) (ka2 : ClassId) (fx : Nat → Int64) (jj : Nat) (h0 : Heap) (n0 : Nat) (v : Option Value) (h : Heap) (L : List Loc) : Prop := v = none ∧ Fr n0 L ∧ (Keep h0 h [a2]) ∧ (Lon Z h a2 ka2 (72 : Int32) (ad3 fx jj ps mg sg))
theorem rm9 (l : Launch) (Z : State) (a0 : Array Value) (hw : HW a0 Z) (a1 : Addr) (su ps : Int32) (mg sg : Int64) (a2 : Addr) (ka2 : ClassId) (fx : Nat → Int64) (jj : Nat) (h0 : Heap) (n0 : Nat) (P0 : Exa Z h0 a1 "com/example/nearterm/nearterm/embedding/ExactSums") (P1 : Fld Z h0 a1 "com/example/nearterm/nearterm/embedding/ExactSums" "limbs" "[J" (.ref a2)) (P2 : Lon Z h0 a2 ka2 (72 : Int32) fx) (g_a2 : n0 ≤ a2) (ne_a1_a2 : a1 ≠ a2) (hj0 : Ix 72 ((su * (36 : Int32)) + (ps.toUInt32 >>> ((5 : Int32) &&& 31).toUInt32).toInt32) jj) (hj1 : Ix 72 (((su * (36 : Int32)) + (ps.toUInt32 >>> ((5 : Int32) &&& 31).toUInt32).toInt32) + 1) (jj + 1)) (hj2 : Ix 72 (((su * (36 : Int32)) + (ps.toUInt32 >>> ((5 : Int32) &&& 31).toUInt32).toInt32) + 2) (jj + 2)) :
  MM l Z Y9 prog_7_method_10_code 13 none 0 0 0 0 #[(.ref a1), (.int su), (.int ps), (.long mg), (.long sg)] h0 (Q9 Z a1 su ps mg sg a2 ka2 fx jj h0 n0) := by
 refine own_start (fun m => (mkF m 0 (Sh24 a1 su ps mg sg) [])) (plainFor_of_name pn_com_example_nearterm_nearterm_embedding_ExactSums) (by simp [entryFrame, mkF, argsToLocals, Value.category]) n0 ?_
 intro p e s m below meth c s₁ Bd hx B hml hZ hown hnm X0 e0 N0
 refine GoW.sg (mkF m 10 (Sh25 a1 su ps mg sg ((su * (36 : Int32)) + (ps.toUInt32 >>> ((5 : Int32) &&& 31).toUInt32).toInt32)) []) (fun t k => XS.iloadN X0.here hx rfl (B d9_0) rfl (XS.bipush X0.here hx rfl (B d9_1) (XS.imul X0.here hx rfl (B d9_3) rfl (XS.iloadN X0.here hx rfl (B d9_4) rfl (XS.iconst X0.here hx rfl (B d9_5) (XS.iushr X0.here hx rfl (B d9_6) rfl (XS.iadd X0.here hx rfl (B d9_7) rfl (XS.istore X0.here hx rfl (B d9_8) rfl (l' := (Sh25 a1 su ps mg sg ((su * (36 : Int32)) + (ps.toUInt32 >>> ((5 : Int32) &&& 31).toUInt32).toInt32))) rfl k)))))))) ?_
 refine GoW.sg (mkF m 22 (Sh27 a1 su ps mg sg ((su * (36 : Int32)) + (ps.toUInt32 >>> ((5 : Int32) &&& 31).toUInt32).toInt32) (ps &&& (31 : Int32)) (mg <<< ((ps &&& (31 : Int32)) &&& 0x3f).toInt64)) []) (fun t k => XS.iloadN X0.here hx rfl (B d9_10) rfl (XS.bipush X0.here hx rfl (B d9_11) (XS.iand X0.here hx rfl (B d9_13) rfl (XS.istore X0.here hx rfl (B d9_14) rfl (l' := (Sh26 a1 su ps mg sg ((su * (36 : Int32)) + (ps.toUInt32 >>> ((5 : Int32) &&& 31).toUInt32).toInt32) (ps &&& (31 : Int32)))) rfl (XS.lloadN X0.here hx rfl (B d9_16) rfl (XS.iload X0.here hx rfl (B d9_17) rfl (XS.lshl X0.here hx rfl (B d9_19) rfl (XS.lstore X0.here hx rfl (B d9_20) rfl (l' := (Sh27 a1 su ps mg sg ((su * (36 : Int32)) + (ps.toUInt32 >>> ((5 : Int32) &&& 31).toUInt32).toInt32) (ps &&& (31 : Int32)) (mg <<< ((ps &&& (31 : Int32)) &&& 0x3f).toInt64))) rfl k)))))))) ?_
 refine GoW.sg (mkF m 33 (Sh28 a1 su ps mg sg ((su * (36 : Int32)) + (ps.toUInt32 >>> ((5 : Int32) &&& 31).toUInt32).toInt32) (ps &&& (31 : Int32)) (mg <<< ((ps &&& (31 : Int32)) &&& 0x3f).toInt64) (((mg.toUInt64 >>> ((1 : Int32) &&& 0x3f).toInt64.toUInt64).toInt64.toUInt64 >>> (((63 : Int32) - (ps &&& (31 : Int32))) &&& 0x3f).toInt64.toUInt64).toInt64)) []) (fun t k => XS.lloadN X0.here hx rfl (B d9_22) rfl (XS.iconst X0.here hx rfl (B d9_23) (XS.lushr X0.here hx rfl (B d9_24) rfl (XS.bipush X0.here hx rfl (B d9_25) (XS.iload X0.here hx rfl (B d9_27) rfl (XS.isub X0.here hx rfl (B d9_29) rfl (XS.lushr X0.here hx rfl (B d9_30) rfl (XS.lstore X0.here hx rfl (B d9_31) rfl (l' := (Sh28 a1 su ps mg sg ((su * (36 : Int32)) + (ps.toUInt32 >>> ((5 : Int32) &&& 31).toUInt32).toInt32) (ps &&& (31 : Int32)) (mg <<< ((ps &&& (31 : Int32)) &&& 0x3f).toInt64) (((mg.toUInt64 >>> ((1 : Int32) &&& 0x3f).toInt64.toUInt64).toInt64.toUInt64 >>> (((63 : Int32) - (ps &&& (31 : Int32))) &&& 0x3f).toInt64.toUInt64).toInt64))) rfl k)))))))) ?_
 refine GoW.sg (mkF m 34 (Sh28 a1 su ps mg sg ((su * (36 : Int32)) + (ps.toUInt32 >>> ((5 : Int32) &&& 31).toUInt32).toInt32) (ps &&& (31 : Int32)) (mg <<< ((ps &&& (31 : Int32)) &&& 0x3f).toInt64) (((mg.toUInt64 >>> ((1 : Int32) &&& 0x3f).toInt64.toUInt64).toInt64.toUInt64 >>> (((63 : Int32) - (ps &&& (31 : Int32))) &&& 0x3f).toInt64.toUInt64).toInt64)) [(.ref a1)]) (fun t k => XS.aloadN X0.here hx rfl (B d9_33) rfl rfl k) ?_
 obtain ⟨T69, X69, e69, st69⟩ := getF X0 hx hZ hown (host := "") (Or.inl (ww hw 14 rfl)) Via.refl e0 P1 (g := (mkF m 34 (Sh28 a1 su ps mg sg ((su * (36 : Int32)) + (ps.toUInt32 >>> ((5 : Int32) &&& 31).toUInt32).toInt32) (ps &&& (31 : Int32)) (mg <<< ((ps &&& (31 : Int32)) &&& 0x3f).toInt64) (((mg.toUInt64 >>> ((1 : Int32) &&& 0x3f).toInt64.toUInt64).toInt64.toUInt64 >>> (((63 : Int32) - (ps &&& (31 : Int32))) &&& 0x3f).toInt64.toUInt64).toInt64)) [(.ref a1)])) rfl rfl (B d9_34)
 refine GoW.sg (mkF m 37 (Sh28 a1 su ps mg sg ((su * (36 : Int32)) + (ps.toUInt32 >>> ((5 : Int32) &&& 31).toUInt32).toInt32) (ps &&& (31 : Int32)) (mg <<< ((ps &&& (31 : Int32)) &&& 0x3f).toInt64) (((mg.toUInt64 >>> ((1 : Int32) &&& 0x3f).toInt64.toUInt64).toInt64.toUInt64 >>> (((63 : Int32) - (ps &&& (31 : Int32))) &&& 0x3f).toInt64.toUInt64).toInt64)) [(.ref a2)]) (fun t k => st69 t k) ?_
 refine GoW.sg (mkF m 39 (Sh28 a1 su ps mg sg ((su * (36 : Int32)) + (ps.toUInt32 >>> ((5 : Int32) &&& 31).toUInt32).toInt32) (ps &&& (31 : Int32)) (mg <<< ((ps &&& (31 : Int32)) &&& 0x3f).toInt64) (((mg.toUInt64 >>> ((1 : Int32) &&& 0x3f).toInt64.toUInt64).toInt64.toUInt64 >>> (((63 : Int32) - (ps &&& (31 : Int32))) &&& 0x3f).toInt64.toUInt64).toInt64)) [(.int ((su * (36 : Int32)) + (ps.toUInt32 >>> ((5 : Int32) &&& 31).toUInt32).toInt32)), (.ref a2)]) (fun t k => XS.iload X69.here hx rfl (B d9_37) rfl k) ?_
 refine GoW.sg (mkF m 40 (Sh28 a1 su ps mg sg ((su * (36 : Int32)) + (ps.toUInt32 >>> ((5 : Int32) &&& 31).toUInt32).toInt32) (ps &&& (31 : Int32)) (mg <<< ((ps &&& (31 : Int32)) &&& 0x3f).toInt64) (((mg.toUInt64 >>> ((1 : Int32) &&& 0x3f).toInt64.toUInt64).toInt64.toUInt64 >>> (((63 : Int32) - (ps &&& (31 : Int32))) &&& 0x3f).toInt64.toUInt64).toInt64)) [(.int ((su * (36 : Int32)) + (ps.toUInt32 >>> ((5 : Int32) &&& 31).toUInt32).toInt32)), (.ref a2), (.int ((su * (36 : Int32)) + (ps.toUInt32 >>> ((5 : Int32) &&& 31).toUInt32).toInt32)), (.ref a2)]) (fun t k => XT.dup2 X69.here hx rfl (B d9_39) rfl rfl rfl k) ?_
 refine GoW.sg (mkF m 41 (Sh28 a1 su ps mg sg ((su * (36 : Int32)) + (ps.toUInt32 >>> ((5 : Int32) &&& 31).toUInt32).toInt32) (ps &&& (31 : Int32)) (mg <<< ((ps &&& (31 : Int32)) &&& 0x3f).toInt64) (((mg.toUInt64 >>> ((1 : Int32) &&& 0x3f).toInt64.toUInt64).toInt64.toUInt64 >>> (((63 : Int32) - (ps &&& (31 : Int32))) &&& 0x3f).toInt64.toUInt64).toInt64)) [(.long (fx jj)), (.int ((su * (36 : Int32)) + (ps.toUInt32 >>> ((5 : Int32) &&& 31).toUInt32).toInt32)), (.ref a2)]) (fun t k => own_ldL X69 hx hZ e69 P2 (i := jj) hj0 (g := (mkF m 40 (Sh28 a1 su ps mg sg ((su * (36 : Int32)) + (ps.toUInt32 >>> ((5 : Int32) &&& 31).toUInt32).toInt32) (ps &&& (31 : Int32)) (mg <<< ((ps &&& (31 : Int32)) &&& 0x3f).toInt64) (((mg.toUInt64 >>> ((1 : Int32) &&& 0x3f).toInt64.toUInt64).toInt64.toUInt64 >>> (((63 : Int32) - (ps &&& (31 : Int32))) &&& 0x3f).toInt64.toUInt64).toInt64)) [(.int ((su * (36 : Int32)) + (ps.toUInt32 >>> ((5 : Int32) &&& 31).toUInt32).toInt32)), (.ref a2), (.int ((su * (36 : Int32)) + (ps.toUInt32 >>> ((5 : Int32) &&& 31).toUInt32).toInt32)), (.ref a2)])) rfl rfl (B d9_40) t k) ?_
 refine GoW.sg (mkF m 43 (Sh28 a1 su ps mg sg ((su * (36 : Int32)) + (ps.toUInt32 >>> ((5 : Int32) &&& 31).toUInt32).toInt32) (ps &&& (31 : Int32)) (mg <<< ((ps &&& (31 : Int32)) &&& 0x3f).toInt64) (((mg.toUInt64 >>> ((1 : Int32) &&& 0x3f).toInt64.toUInt64).toInt64.toUInt64 >>> (((63 : Int32) - (ps &&& (31 : Int32))) &&& 0x3f).toInt64.toUInt64).toInt64)) [(.long (mg <<< ((ps &&& (31 : Int32)) &&& 0x3f).toInt64)), (.long (fx jj)), (.int ((su * (36 : Int32)) + (ps.toUInt32 >>> ((5 : Int32) &&& 31).toUInt32).toInt32)), (.ref a2)]) (fun t k => XS.lload X69.here hx rfl (B d9_41) rfl k) ?_
 refine GoW.sg (mkF m 46 (Sh28 a1 su ps mg sg ((su * (36 : Int32)) + (ps.toUInt32 >>> ((5 : Int32) &&& 31).toUInt32).toInt32) (ps &&& (31 : Int32)) (mg <<< ((ps &&& (31 : Int32)) &&& 0x3f).toInt64) (((mg.toUInt64 >>> ((1 : Int32) &&& 0x3f).toInt64.toUInt64).toInt64.toUInt64 >>> (((63 : Int32) - (ps &&& (31 : Int32))) &&& 0x3f).toInt64.toUInt64).toInt64)) [(.long 4294967295), (.long (mg <<< ((ps &&& (31 : Int32)) &&& 0x3f).toInt64)), (.long (fx jj)), (.int ((su * (36 : Int32)) + (ps.toUInt32 >>> ((5 : Int32) &&& 31).toUInt32).toInt32)), (.ref a2)]) (fun t k => X69.ldc2Long hx hown (mvT hZ (ww hw 43 rfl)) (g := (mkF m 43 (Sh28 a1 su ps mg sg ((su * (36 : Int32)) + (ps.toUInt32 >>> ((5 : Int32) &&& 31).toUInt32).toInt32) (ps &&& (31 : Int32)) (mg <<< ((ps &&& (31 : Int32)) &&& 0x3f).toInt64) (((mg.toUInt64 >>> ((1 : Int32) &&& 0x3f).toInt64.toUInt64).toInt64.toUInt64 >>> (((63 : Int32) - (ps &&& (31 : Int32))) &&& 0x3f).toInt64.toUInt64).toInt64)) [(.long (mg <<< ((ps &&& (31 : Int32)) &&& 0x3f).toInt64)), (.long (fx jj)), (.int ((su * (36 : Int32)) + (ps.toUInt32 >>> ((5 : Int32) &&& 31).toUInt32).toInt32)), (.ref a2)])) rfl (B d9_43) t k) ?_
 refine GoW.sg (mkF m 54 (Sh28 a1 su ps mg sg ((su * (36 : Int32)) + (ps.toUInt32 >>> ((5 : Int32) &&& 31).toUInt32).toInt32) (ps &&& (31 : Int32)) (mg <<< ((ps &&& (31 : Int32)) &&& 0x3f).toInt64) (((mg.toUInt64 >>> ((1 : Int32) &&& 0x3f).toInt64.toUInt64).toInt64.toUInt64 >>> (((63 : Int32) - (ps &&& (31 : Int32))) &&& 0x3f).toInt64.toUInt64).toInt64)) [(.long ((fx jj) + ((((mg <<< ((ps &&& (31 : Int32)) &&& 0x3f).toInt64) &&& (4294967295 : Int64)) ^^^ sg) - sg))), (.int ((su * (36 : Int32)) + (ps.toUInt32 >>> ((5 : Int32) &&& 31).toUInt32).toInt32)), (.ref a2)]) (fun t k => XS.land X69.here hx rfl (B d9_46) rfl (XS.lload X69.here hx rfl (B d9_47) rfl (XS.lxor X69.here hx rfl (B d9_49) rfl (XS.lload X69.here hx rfl (B d9_50) rfl (XS.lsub X69.here hx rfl (B d9_52) rfl (XS.ladd X69.here hx rfl (B d9_53) rfl k)))))) ?_
 obtain ⟨T70, h70, X70, e70, W70, M70, st70⟩ := own_stL X69 hx hZ e69 P2 (i := jj) hj0 (g := (mkF m 54 (Sh28 a1 su ps mg sg ((su * (36 : Int32)) + (ps.toUInt32 >>> ((5 : Int32) &&& 31).toUInt32).toInt32) (ps &&& (31 : Int32)) (mg <<< ((ps &&& (31 : Int32)) &&& 0x3f).toInt64) (((mg.toUInt64 >>> ((1 : Int32) &&& 0x3f).toInt64.toUInt64).toInt64.toUInt64 >>> (((63 : Int32) - (ps &&& (31 : Int32))) &&& 0x3f).toInt64.toUInt64).toInt64)) [(.long ((fx jj) + ((((mg <<< ((ps &&& (31 : Int32)) &&& 0x3f).toInt64) &&& (4294967295 : Int64)) ^^^ sg) - sg))), (.int ((su * (36 : Int32)) + (ps.toUInt32 >>> ((5 : Int32) &&& 31).toUInt32).toInt32)), (.ref a2)])) rfl rfl (B d9_54)
 have f70_2 := P1.other W70 (Or.inl ne_a1_a2)
 have f70_3 := (Keep.refl h0 [a2]).wr W70 (Or.inl (List.mem_of_getElem? (i := 0) rfl))
 have N70 := Fr.snoc X70 N0 g_a2
 refine GoW.sg (mkF m 55 (Sh28 a1 su ps mg sg ((su * (36 : Int32)) + (ps.toUInt32 >>> ((5 : Int32) &&& 31).toUInt32).toInt32) (ps &&& (31 : Int32)) (mg <<< ((ps &&& (31 : Int32)) &&& 0x3f).toInt64) (((mg.toUInt64 >>> ((1 : Int32) &&& 0x3f).toInt64.toUInt64).toInt64.toUInt64 >>> (((63 : Int32) - (ps &&& (31 : Int32))) &&& 0x3f).toInt64.toUInt64).toInt64)) []) (fun t k => st70 t k) ?_
 refine GoW.sg (mkF m 56 (Sh28 a1 su ps mg sg ((su * (36 : Int32)) + (ps.toUInt32 >>> ((5 : Int32) &&& 31).toUInt32).toInt32) (ps &&& (31 : Int32)) (mg <<< ((ps &&& (31 : Int32)) &&& 0x3f).toInt64) (((mg.toUInt64 >>> ((1 : Int32) &&& 0x3f).toInt64.toUInt64).toInt64.toUInt64 >>> (((63 : Int32) - (ps &&& (31 : Int32))) &&& 0x3f).toInt64.toUInt64).toInt64)) [(.ref a1)]) (fun t k => XS.aloadN X70.here hx rfl (B d9_55) rfl rfl k) ?_
 obtain ⟨T71, X71, e71, st71⟩ := getF X70 hx hZ hown (host := "") (Or.inl (ww hw 14 rfl)) Via.refl e70 f70_2 (g := (mkF m 56 (Sh28 a1 su ps mg sg ((su * (36 : Int32)) + (ps.toUInt32 >>> ((5 : Int32) &&& 31).toUInt32).toInt32) (ps &&& (31 : Int32)) (mg <<< ((ps &&& (31 : Int32)) &&& 0x3f).toInt64) (((mg.toUInt64 >>> ((1 : Int32) &&& 0x3f).toInt64.toUInt64).toInt64.toUInt64 >>> (((63 : Int32) - (ps &&& (31 : Int32))) &&& 0x3f).toInt64.toUInt64).toInt64)) [(.ref a1)])) rfl rfl (B d9_56)
 refine GoW.sg (mkF m 59 (Sh28 a1 su ps mg sg ((su * (36 : Int32)) + (ps.toUInt32 >>> ((5 : Int32) &&& 31).toUInt32).toInt32) (ps &&& (31 : Int32)) (mg <<< ((ps &&& (31 : Int32)) &&& 0x3f).toInt64) (((mg.toUInt64 >>> ((1 : Int32) &&& 0x3f).toInt64.toUInt64).toInt64.toUInt64 >>> (((63 : Int32) - (ps &&& (31 : Int32))) &&& 0x3f).toInt64.toUInt64).toInt64)) [(.ref a2)]) (fun t k => st71 t k) ?_
 refine GoW.sg (mkF m 63 (Sh28 a1 su ps mg sg ((su * (36 : Int32)) + (ps.toUInt32 >>> ((5 : Int32) &&& 31).toUInt32).toInt32) (ps &&& (31 : Int32)) (mg <<< ((ps &&& (31 : Int32)) &&& 0x3f).toInt64) (((mg.toUInt64 >>> ((1 : Int32) &&& 0x3f).toInt64.toUInt64).toInt64.toUInt64 >>> (((63 : Int32) - (ps &&& (31 : Int32))) &&& 0x3f).toInt64.toUInt64).toInt64)) [(.int (((su * (36 : Int32)) + (ps.toUInt32 >>> ((5 : Int32) &&& 31).toUInt32).toInt32) + (1 : Int32))), (.ref a2)]) (fun t k => XS.iload X71.here hx rfl (B d9_59) rfl (XS.iconst X71.here hx rfl (B d9_61) (XS.iadd X71.here hx rfl (B d9_62) rfl k))) ?_
 refine GoW.sg (mkF m 64 (Sh28 a1 su ps mg sg ((su * (36 : Int32)) + (ps.toUInt32 >>> ((5 : Int32) &&& 31).toUInt32).toInt32) (ps &&& (31 : Int32)) (mg <<< ((ps &&& (31 : Int32)) &&& 0x3f).toInt64) (((mg.toUInt64 >>> ((1 : Int32) &&& 0x3f).toInt64.toUInt64).toInt64.toUInt64 >>> (((63 : Int32) - (ps &&& (31 : Int32))) &&& 0x3f).toInt64.toUInt64).toInt64)) [(.int (((su * (36 : Int32)) + (ps.toUInt32 >>> ((5 : Int32) &&& 31).toUInt32).toInt32) + (1 : Int32))), (.ref a2), (.int (((su * (36 : Int32)) + (ps.toUInt32 >>> ((5 : Int32) &&& 31).toUInt32).toInt32) + (1 : Int32))), (.ref a2)]) (fun t k => XT.dup2 X71.here hx rfl (B d9_63) rfl rfl rfl k) ?_
 refine GoW.sg (mkF m 65 (Sh28 a1 su ps mg sg ((su * (36 : Int32)) + (ps.toUInt32 >>> ((5 : Int32) &&& 31).toUInt32).toInt32) (ps &&& (31 : Int32)) (mg <<< ((ps &&& (31 : Int32)) &&& 0x3f).toInt64) (((mg.toUInt64 >>> ((1 : Int32) &&& 0x3f).toInt64.toUInt64).toInt64.toUInt64 >>> (((63 : Int32) - (ps &&& (31 : Int32))) &&& 0x3f).toInt64.toUInt64).toInt64)) [(.long (up fx jj ((fx jj) + ((((mg <<< ((ps &&& (31 : Int32)) &&& 0x3f).toInt64) &&& (4294967295 : Int64)) ^^^ sg) - sg)) (jj + 1))), (.int (((su * (36 : Int32)) + (ps.toUInt32 >>> ((5 : Int32) &&& 31).toUInt32).toInt32) + (1 : Int32))), (.ref a2)]) (fun t k => own_ldL X71 hx hZ e71 M70 (i := jj + 1) hj1 (g := (mkF m 64 (Sh28 a1 su ps mg sg ((su * (36 : Int32)) + (ps.toUInt32 >>> ((5 : Int32) &&& 31).toUInt32).toInt32) (ps &&& (31 : Int32)) (mg <<< ((ps &&& (31 : Int32)) &&& 0x3f).toInt64) (((mg.toUInt64 >>> ((1 : Int32) &&& 0x3f).toInt64.toUInt64).toInt64.toUInt64 >>> (((63 : Int32) - (ps &&& (31 : Int32))) &&& 0x3f).toInt64.toUInt64).toInt64)) [(.int (((su * (36 : Int32)) + (ps.toUInt32 >>> ((5 : Int32) &&& 31).toUInt32).toInt32) + (1 : Int32))), (.ref a2), (.int (((su * (36 : Int32)) + (ps.toUInt32 >>> ((5 : Int32) &&& 31).toUInt32).toInt32) + (1 : Int32))), (.ref a2)])) rfl rfl (B d9_64) t k) ?_
 refine GoW.sg (mkF m 77 (Sh28 a1 su ps mg sg ((su * (36 : Int32)) + (ps.toUInt32 >>> ((5 : Int32) &&& 31).toUInt32).toInt32) (ps &&& (31 : Int32)) (mg <<< ((ps &&& (31 : Int32)) &&& 0x3f).toInt64) (((mg.toUInt64 >>> ((1 : Int32) &&& 0x3f).toInt64.toUInt64).toInt64.toUInt64 >>> (((63 : Int32) - (ps &&& (31 : Int32))) &&& 0x3f).toInt64.toUInt64).toInt64)) [(.long ((up fx jj ((fx jj) + ((((mg <<< ((ps &&& (31 : Int32)) &&& 0x3f).toInt64) &&& (4294967295 : Int64)) ^^^ sg) - sg)) (jj + 1)) + ((((mg <<< ((ps &&& (31 : Int32)) &&& 0x3f).toInt64).toUInt64 >>> ((32 : Int32) &&& 0x3f).toInt64.toUInt64).toInt64 ^^^ sg) - sg))), (.int (((su * (36 : Int32)) + (ps.toUInt32 >>> ((5 : Int32) &&& 31).toUInt32).toInt32) + (1 : Int32))), (.ref a2)]) (fun t k => XS.lload X71.here hx rfl (B d9_65) rfl (XS.bipush X71.here hx rfl (B d9_67) (XS.lushr X71.here hx rfl (B d9_69) rfl (XS.lload X71.here hx rfl (B d9_70) rfl (XS.lxor X71.here hx rfl (B d9_72) rfl (XS.lload X71.here hx rfl (B d9_73) rfl (XS.lsub X71.here hx rfl (B d9_75) rfl (XS.ladd X71.here hx rfl (B d9_76) rfl k)))))))) ?_
 obtain ⟨T72, h72, X72, e72, W72, M72, st72⟩ := own_stL X71 hx hZ e71 M70 (i := jj + 1) hj1 (g := (mkF m 77 (Sh28 a1 su ps mg sg ((su * (36 : Int32)) + (ps.toUInt32 >>> ((5 : Int32) &&& 31).toUInt32).toInt32) (ps &&& (31 : Int32)) (mg <<< ((ps &&& (31 : Int32)) &&& 0x3f).toInt64) (((mg.toUInt64 >>> ((1 : Int32) &&& 0x3f).toInt64.toUInt64).toInt64.toUInt64 >>> (((63 : Int32) - (ps &&& (31 : Int32))) &&& 0x3f).toInt64.toUInt64).toInt64)) [(.long ((up fx jj ((fx jj) + ((((mg <<< ((ps &&& (31 : Int32)) &&& 0x3f).toInt64) &&& (4294967295 : Int64)) ^^^ sg) - sg)) (jj + 1)) + ((((mg <<< ((ps &&& (31 : Int32)) &&& 0x3f).toInt64).toUInt64 >>> ((32 : Int32) &&& 0x3f).toInt64.toUInt64).toInt64 ^^^ sg) - sg))), (.int (((su * (36 : Int32)) + (ps.toUInt32 >>> ((5 : Int32) &&& 31).toUInt32).toInt32) + (1 : Int32))), (.ref a2)])) rfl rfl (B d9_77)
 have f72_5 := f70_2.other W72 (Or.inl ne_a1_a2)
 have f72_6 := f70_3.wr W72 (Or.inl (List.mem_of_getElem? (i := 0) rfl))
 have N72 := Fr.snoc X72 N70 g_a2
 refine GoW.sg (mkF m 78 (Sh28 a1 su ps mg sg ((su * (36 : Int32)) + (ps.toUInt32 >>> ((5 : Int32) &&& 31).toUInt32).toInt32) (ps &&& (31 : Int32)) (mg <<< ((ps &&& (31 : Int32)) &&& 0x3f).toInt64) (((mg.toUInt64 >>> ((1 : Int32) &&& 0x3f).toInt64.toUInt64).toInt64.toUInt64 >>> (((63 : Int32) - (ps &&& (31 : Int32))) &&& 0x3f).toInt64.toUInt64).toInt64)) []) (fun t k => st72 t k) ?_
 refine GoW.sg (mkF m 79 (Sh28 a1 su ps mg sg ((su * (36 : Int32)) + (ps.toUInt32 >>> ((5 : Int32) &&& 31).toUInt32).toInt32) (ps &&& (31 : Int32)) (mg <<< ((ps &&& (31 : Int32)) &&& 0x3f).toInt64) (((mg.toUInt64 >>> ((1 : Int32) &&& 0x3f).toInt64.toUInt64).toInt64.toUInt64 >>> (((63 : Int32) - (ps &&& (31 : Int32))) &&& 0x3f).toInt64.toUInt64).toInt64)) [(.ref a1)]) (fun t k => XS.aloadN X72.here hx rfl (B d9_78) rfl rfl k) ?_
 obtain ⟨T73, X73, e73, st73⟩ := getF X72 hx hZ hown (host := "") (Or.inl (ww hw 14 rfl)) Via.refl e72 f72_5 (g := (mkF m 79 (Sh28 a1 su ps mg sg ((su * (36 : Int32)) + (ps.toUInt32 >>> ((5 : Int32) &&& 31).toUInt32).toInt32) (ps &&& (31 : Int32)) (mg <<< ((ps &&& (31 : Int32)) &&& 0x3f).toInt64) (((mg.toUInt64 >>> ((1 : Int32) &&& 0x3f).toInt64.toUInt64).toInt64.toUInt64 >>> (((63 : Int32) - (ps &&& (31 : Int32))) &&& 0x3f).toInt64.toUInt64).toInt64)) [(.ref a1)])) rfl rfl (B d9_79)
 refine GoW.sg (mkF m 82 (Sh28 a1 su ps mg sg ((su * (36 : Int32)) + (ps.toUInt32 >>> ((5 : Int32) &&& 31).toUInt32).toInt32) (ps &&& (31 : Int32)) (mg <<< ((ps &&& (31 : Int32)) &&& 0x3f).toInt64) (((mg.toUInt64 >>> ((1 : Int32) &&& 0x3f).toInt64.toUInt64).toInt64.toUInt64 >>> (((63 : Int32) - (ps &&& (31 : Int32))) &&& 0x3f).toInt64.toUInt64).toInt64)) [(.ref a2)]) (fun t k => st73 t k) ?_
 refine GoW.sg (mkF m 86 (Sh28 a1 su ps mg sg ((su * (36 : Int32)) + (ps.toUInt32 >>> ((5 : Int32) &&& 31).toUInt32).toInt32) (ps &&& (31 : Int32)) (mg <<< ((ps &&& (31 : Int32)) &&& 0x3f).toInt64) (((mg.toUInt64 >>> ((1 : Int32) &&& 0x3f).toInt64.toUInt64).toInt64.toUInt64 >>> (((63 : Int32) - (ps &&& (31 : Int32))) &&& 0x3f).toInt64.toUInt64).toInt64)) [(.int (((su * (36 : Int32)) + (ps.toUInt32 >>> ((5 : Int32) &&& 31).toUInt32).toInt32) + (2 : Int32))), (.ref a2)]) (fun t k => XS.iload X73.here hx rfl (B d9_82) rfl (XS.iconst X73.here hx rfl (B d9_84) (XS.iadd X73.here hx rfl (B d9_85) rfl k))) ?_
 refine GoW.sg (mkF m 87 (Sh28 a1 su ps mg sg ((su * (36 : Int32)) + (ps.toUInt32 >>> ((5 : Int32) &&& 31).toUInt32).toInt32) (ps &&& (31 : Int32)) (mg <<< ((ps &&& (31 : Int32)) &&& 0x3f).toInt64) (((mg.toUInt64 >>> ((1 : Int32) &&& 0x3f).toInt64.toUInt64).toInt64.toUInt64 >>> (((63 : Int32) - (ps &&& (31 : Int32))) &&& 0x3f).toInt64.toUInt64).toInt64)) [(.int (((su * (36 : Int32)) + (ps.toUInt32 >>> ((5 : Int32) &&& 31).toUInt32).toInt32) + (2 : Int32))), (.ref a2), (.int (((su * (36 : Int32)) + (ps.toUInt32 >>> ((5 : Int32) &&& 31).toUInt32).toInt32) + (2 : Int32))), (.ref a2)]) (fun t k => XT.dup2 X73.here hx rfl (B d9_86) rfl rfl rfl k) ?_
 refine GoW.sg (mkF m 88 (Sh28 a1 su ps mg sg ((su * (36 : Int32)) + (ps.toUInt32 >>> ((5 : Int32) &&& 31).toUInt32).toInt32) (ps &&& (31 : Int32)) (mg <<< ((ps &&& (31 : Int32)) &&& 0x3f).toInt64) (((mg.toUInt64 >>> ((1 : Int32) &&& 0x3f).toInt64.toUInt64).toInt64.toUInt64 >>> (((63 : Int32) - (ps &&& (31 : Int32))) &&& 0x3f).toInt64.toUInt64).toInt64)) [(.long (up (up fx jj ((fx jj) + ((((mg <<< ((ps &&& (31 : Int32)) &&& 0x3f).toInt64) &&& (4294967295 : Int64)) ^^^ sg) - sg))) (jj + 1) ((up fx jj ((fx jj) + ((((mg <<< ((ps &&& (31 : Int32)) &&& 0x3f).toInt64) &&& (4294967295 : Int64)) ^^^ sg) - sg)) (jj + 1)) + ((((mg <<< ((ps &&& (31 : Int32)) &&& 0x3f).toInt64).toUInt64 >>> ((32 : Int32) &&& 0x3f).toInt64.toUInt64).toInt64 ^^^ sg) - sg)) (jj + 2))), (.int (((su * (36 : Int32)) + (ps.toUInt32 >>> ((5 : Int32) &&& 31).toUInt32).toInt32) + (2 : Int32))), (.ref a2)]) (fun t k => own_ldL X73 hx hZ e73 M72 (i := jj + 2) hj2 (g := (mkF m 87 (Sh28 a1 su ps mg sg ((su * (36 : Int32)) + (ps.toUInt32 >>> ((5 : Int32) &&& 31).toUInt32).toInt32) (ps &&& (31 : Int32)) (mg <<< ((ps &&& (31 : Int32)) &&& 0x3f).toInt64) (((mg.toUInt64 >>> ((1 : Int32) &&& 0x3f).toInt64.toUInt64).toInt64.toUInt64 >>> (((63 : Int32) - (ps &&& (31 : Int32))) &&& 0x3f).toInt64.toUInt64).toInt64)) [(.int (((su * (36 : Int32)) + (ps.toUInt32 >>> ((5 : Int32) &&& 31).toUInt32).toInt32) + (2 : Int32))), (.ref a2), (.int (((su * (36 : Int32)) + (ps.toUInt32 >>> ((5 : Int32) &&& 31).toUInt32).toInt32) + (2 : Int32))), (.ref a2)])) rfl rfl (B d9_87) t k) ?_
 refine GoW.sg (mkF m 97 (Sh28 a1 su ps mg sg ((su * (36 : Int32)) + (ps.toUInt32 >>> ((5 : Int32) &&& 31).toUInt32).toInt32) (ps &&& (31 : Int32)) (mg <<< ((ps &&& (31 : Int32)) &&& 0x3f).toInt64) (((mg.toUInt64 >>> ((1 : Int32) &&& 0x3f).toInt64.toUInt64).toInt64.toUInt64 >>> (((63 : Int32) - (ps &&& (31 : Int32))) &&& 0x3f).toInt64.toUInt64).toInt64)) [(.long ((up (up fx jj ((fx jj) + ((((mg <<< ((ps &&& (31 : Int32)) &&& 0x3f).toInt64) &&& (4294967295 : Int64)) ^^^ sg) - sg))) (jj + 1) ((up fx jj ((fx jj) + ((((mg <<< ((ps &&& (31 : Int32)) &&& 0x3f).toInt64) &&& (4294967295 : Int64)) ^^^ sg) - sg)) (jj + 1)) + ((((mg <<< ((ps &&& (31 : Int32)) &&& 0x3f).toInt64).toUInt64 >>> ((32 : Int32) &&& 0x3f).toInt64.toUInt64).toInt64 ^^^ sg) - sg)) (jj + 2)) + ((((mg.toUInt64 >>> ((1 : Int32) &&& 0x3f).toInt64.toUInt64).toInt64.toUInt64 >>> (((63 : Int32) - (ps &&& (31 : Int32))) &&& 0x3f).toInt64.toUInt64).toInt64 ^^^ sg) - sg))), (.int (((su * (36 : Int32)) + (ps.toUInt32 >>> ((5 : Int32) &&& 31).toUInt32).toInt32) + (2 : Int32))), (.ref a2)]) (fun t k => XS.lload X73.here hx rfl (B d9_88) rfl (XS.lload X73.here hx rfl (B d9_90) rfl (XS.lxor X73.here hx rfl (B d9_92) rfl (XS.lload X73.here hx rfl (B d9_93) rfl (XS.lsub X73.here hx rfl (B d9_95) rfl (XS.ladd X73.here hx rfl (B d9_96) rfl k)))))) ?_
 obtain ⟨T74, h74, X74, e74, W74, M74, st74⟩ := own_stL X73 hx hZ e73 M72 (i := jj + 2) hj2 (g := (mkF m 97 (Sh28 a1 su ps mg sg ((su * (36 : Int32)) + (ps.toUInt32 >>> ((5 : Int32) &&& 31).toUInt32).toInt32) (ps &&& (31 : Int32)) (mg <<< ((ps &&& (31 : Int32)) &&& 0x3f).toInt64) (((mg.toUInt64 >>> ((1 : Int32) &&& 0x3f).toInt64.toUInt64).toInt64.toUInt64 >>> (((63 : Int32) - (ps &&& (31 : Int32))) &&& 0x3f).toInt64.toUInt64).toInt64)) [(.long ((up (up fx jj ((fx jj) + ((((mg <<< ((ps &&& (31 : Int32)) &&& 0x3f).toInt64) &&& (4294967295 : Int64)) ^^^ sg) - sg))) (jj + 1) ((up fx jj ((fx jj) + ((((mg <<< ((ps &&& (31 : Int32)) &&& 0x3f).toInt64) &&& (4294967295 : Int64)) ^^^ sg) - sg)) (jj + 1)) + ((((mg <<< ((ps &&& (31 : Int32)) &&& 0x3f).toInt64).toUInt64 >>> ((32 : Int32) &&& 0x3f).toInt64.toUInt64).toInt64 ^^^ sg) - sg)) (jj + 2)) + ((((mg.toUInt64 >>> ((1 : Int32) &&& 0x3f).toInt64.toUInt64).toInt64.toUInt64 >>> (((63 : Int32) - (ps &&& (31 : Int32))) &&& 0x3f).toInt64.toUInt64).toInt64 ^^^ sg) - sg))), (.int (((su * (36 : Int32)) + (ps.toUInt32 >>> ((5 : Int32) &&& 31).toUInt32).toInt32) + (2 : Int32))), (.ref a2)])) rfl rfl (B d9_97)
 have f74_9 := f72_6.wr W74 (Or.inl (List.mem_of_getElem? (i := 0) rfl))
 have N74 := Fr.snoc X74 N72 g_a2
 refine GoW.sg (mkF m 98 (Sh28 a1 su ps mg sg ((su * (36 : Int32)) + (ps.toUInt32 >>> ((5 : Int32) &&& 31).toUInt32).toInt32) (ps &&& (31 : Int32)) (mg <<< ((ps &&& (31 : Int32)) &&& 0x3f).toInt64) (((mg.toUInt64 >>> ((1 : Int32) &&& 0x3f).toInt64.toUInt64).toInt64.toUInt64 >>> (((63 : Int32) - (ps &&& (31 : Int32))) &&& 0x3f).toInt64.toUInt64).toInt64)) []) (fun t k => st74 t k) ?_
 have M75 : Lon Z h74 a2 ka2 (72 : Int32) (ad3 fx jj ps mg sg) := M74.cong (fun t ht => own_ad3 _ _ _ _ _ t)
 refine GoW.retV X74 hx Bd.returns (B d9_98) Bd.notSynchronized ?_ (by decide) (by decide)
 rw [e74]
 exact ⟨rfl, N74, f74_9, M75⟩
def Q4 (Z : State) (a1 : Addr) (su : Int32) (dv : UInt64) (vi : Int32) (a2 : Addr) (ka2 : ClassId) (fx : Nat → Int64) (bu : Nat) (h0 : Heap) (n0 : Nat) (v : Option Value) (h : Heap) (L : List Loc) : Prop := v = none ∧ Fr n0 L ∧ (Keep h0 h [a2]) ∧ (Lon Z h a2 ka2 (72 : Int32) (adF fx bu vi))
theorem rm4 (l : Launch) (Z : State) (a0 : Array Value) (hw : HW a0 Z) (a1 : Addr) (su : Int32) (dv : UInt64) (vi : Int32) (a2 : Addr) (ka2 : ClassId) (fx : Nat → Int64) (bu : Nat) (h0 : Heap) (n0 : Nat) (P0 : Exa Z h0 a1 "com/example/nearterm/nearterm/embedding/ExactSums") (P1 : Fld Z h0 a1 "com/example/nearterm/nearterm/embedding/ExactSums" "limbs" "[J" (.ref a2)) (P2 : Lon Z h0 a2 ka2 (72 : Int32) fx) (g_a2 : n0 ≤ a2) (ne_a1_a2 : a1 ≠ a2) (hv : dv = FP.l2d (Int32.toInt64 vi)) (hb : Bas su bu) :
  MM l Z Y4 prog_7_method_4_code 7 none 2 0 0 27 #[(.ref a1), (.int su), (.double dv)] h0 (Q4 Z a1 su dv vi a2 ka2 fx bu h0 n0) := by
 refine own_start (fun m => (mkF m 0 (Sh29 a1 su dv) [])) (plainFor_of_name pn_com_example_nearterm_nearterm_embedding_ExactSums) (by simp [entryFrame, mkF, argsToLocals, Value.category]) n0 ?_
 intro p e s m below meth c s₁ Bd hx B hml hZ hown hnm X0 e0 N0
 have y0 : ¬ ((1054 : Int32) < (F5 (dv.toInt64))) := own_e54 hv
 refine GoW.sg (mkF m 1 (Sh29 a1 su dv) [(.double dv)]) (fun t k => XS.dloadN X0.here hx rfl (B d4_0) rfl k) ?_
 obtain ⟨vm76, X76, st76⟩ := X0.doubleToRawLongBits hx hown (mvT hZ (ww hw 21 rfl)) (mvT hZ (ww hw 24 rfl)) (mvT hZ (ww hw 22 rfl)) (mvT hZ (ww hw 23 rfl)) (g := (mkF m 1 (Sh29 a1 su dv) [(.double dv)])) rfl (by rw [hml]; rfl) rfl (B d4_1) (by decide) (by show 2 * 0 + 0 + (nativeFrameWords "java/lang/Double" "doubleToRawLongBits" 2 + 11) ≤ _; decide +kernel)
 have e76 : (s₁.setVm vm76).heap = h0 := e0
 refine GoW.sg (mkF m 4 (Sh29 a1 su dv) [(.long (dv.toInt64))]) (fun t k => st76 t k) ?_
 refine GoW.sg (mkF m 8 (Sh30 a1 su dv (dv.toInt64)) [(.long (dv.toInt64))]) (fun t k => XS.lstore X76.here hx rfl (B d4_4) rfl (l' := (Sh30 a1 su dv (dv.toInt64))) rfl (XS.lload X76.here hx rfl (B d4_6) rfl k)) ?_
 obtain ⟨_, T77, L77, X77, hQ77, st77⟩ := own_callS X76 hx hZ hown (y := Y5) (ww hw 25 rfl) (ww hw 26 rfl) (ww hw 2 rfl) (ww hw 27 rfl) (by decide) 0 (rm5 l Z a0 hw (dv.toInt64) h0 n0) (by decide) (by decide) e76 (by decide) (by decide) (g := (mkF m 8 (Sh30 a1 su dv (dv.toInt64)) [(.long (dv.toInt64))])) rfl (by rw [hml]; rfl) (argsL := [(.long (dv.toInt64))]) (rest := []) (lenOf pd_28J29I rfl) rfl (Nat.le_of_eq rfl) (B d4_8)
 obtain ⟨rfl, N77q, e77⟩ := hQ77
 have N77 := Fr.app N0 N77q
 refine GoW.sg (mkF m 11 (Sh30 a1 su dv (dv.toInt64)) [(.int (F5 (dv.toInt64)))]) (fun t k => st77 t k) ?_
 refine GoW.sg (mkF m 30 (Sh31 a1 su dv (dv.toInt64) (F5 (dv.toInt64))) [(.int (F5 (dv.toInt64))), (.int su), (.ref a1)]) (fun t k => XS.istore X77.here hx rfl (B d4_11) rfl (l' := (Sh31 a1 su dv (dv.toInt64) (F5 (dv.toInt64)))) rfl (XS.iload X77.here hx rfl (B d4_13) rfl (XS.sipush X77.here hx rfl (B d4_15) (XS.icmpYes X77.here hx rfl (pc0 := 18) (pc' := 26) rfl (B d4_18) rfl (flt y0).2.2.2 (by decide) (by decide) (XS.aloadN X77.here hx rfl (B d4_26) rfl rfl (XS.iloadN X77.here hx rfl (B d4_27) rfl (XS.iload X77.here hx rfl (B d4_28) rfl k))))))) ?_
 obtain ⟨_, T78, L78, X78, hQ78, st78⟩ := own_callS X77 hx hZ hown (y := Y6) (ww hw 28 rfl) (ww hw 29 rfl) (ww hw 2 rfl) (ww hw 30 rfl) (by decide) 2 (rm6 l Z a0 hw (F5 (dv.toInt64)) h0 n0) (by decide) (by decide) e77 (by decide) (by decide) (g := (mkF m 30 (Sh31 a1 su dv (dv.toInt64) (F5 (dv.toInt64))) [(.int (F5 (dv.toInt64))), (.int su), (.ref a1)])) rfl (by rw [hml]; rfl) (argsL := [(.int (F5 (dv.toInt64)))]) (rest := [(.int su), (.ref a1)]) (lenOf pd_28I29I rfl) rfl (Nat.le_of_eq rfl) (B d4_30)
 obtain ⟨rfl, N78q, e78⟩ := hQ78
 have N78 := Fr.app N77 N78q
 refine GoW.sg (mkF m 33 (Sh31 a1 su dv (dv.toInt64) (F5 (dv.toInt64))) [(.int (F6 (F5 (dv.toInt64)))), (.int su), (.ref a1)]) (fun t k => st78 t k) ?_
 refine GoW.sg (mkF m 37 (Sh31 a1 su dv (dv.toInt64) (F5 (dv.toInt64))) [(.int (F5 (dv.toInt64))), (.long (dv.toInt64)), (.int (F6 (F5 (dv.toInt64)))), (.int su), (.ref a1)]) (fun t k => XS.lload X78.here hx rfl (B d4_33) rfl (XS.iload X78.here hx rfl (B d4_35) rfl k)) ?_
 obtain ⟨_, T79, L79, X79, hQ79, st79⟩ := own_callS X78 hx hZ hown (y := Y8) (ww hw 34 rfl) (ww hw 35 rfl) (ww hw 2 rfl) (ww hw 36 rfl) (by decide) 3 (rm8 l Z a0 hw (dv.toInt64) (F5 (dv.toInt64)) h0 n0) (by decide) (by decide) e78 (by decide) (by decide) (g := (mkF m 37 (Sh31 a1 su dv (dv.toInt64) (F5 (dv.toInt64))) [(.int (F5 (dv.toInt64))), (.long (dv.toInt64)), (.int (F6 (F5 (dv.toInt64)))), (.int su), (.ref a1)])) rfl (by rw [hml]; rfl) (argsL := [(.long (dv.toInt64)), (.int (F5 (dv.toInt64)))]) (rest := [(.int (F6 (F5 (dv.toInt64)))), (.int su), (.ref a1)]) (lenOf pd_28JI29J rfl) rfl (Nat.le_of_eq rfl) (B d4_37)
 obtain ⟨rfl, N79q, e79⟩ := hQ79
 have N79 := Fr.app N78 N79q
 refine GoW.sg (mkF m 40 (Sh31 a1 su dv (dv.toInt64) (F5 (dv.toInt64))) [(.long (F8 (dv.toInt64) (F5 (dv.toInt64)))), (.int (F6 (F5 (dv.toInt64)))), (.int su), (.ref a1)]) (fun t k => st79 t k) ?_
 refine GoW.sg (mkF m 45 (Sh31 a1 su dv (dv.toInt64) (F5 (dv.toInt64))) [(.long ((dv.toInt64) >>> ((63 : Int32) &&& 0x3f).toInt64)), (.long (F8 (dv.toInt64) (F5 (dv.toInt64)))), (.int (F6 (F5 (dv.toInt64)))), (.int su), (.ref a1)]) (fun t k => XS.lload X79.here hx rfl (B d4_40) rfl (XS.bipush X79.here hx rfl (B d4_42) (XS.lshr X79.here hx rfl (B d4_44) rfl k))) ?_
 obtain ⟨_, T80, L80, X80, hQ80, st80⟩ := own_priv X79 hx hZ (y := Y9) hown (ww hw 39 rfl) (ww hw 41 rfl) (ww hw 1 rfl) (ww hw 40 rfl) (ww hw 42 rfl) (ww hw 2 rfl) (by decide) 0 (a := a1) (rm9 l Z a0 hw a1 su (F6 (F5 (dv.toInt64))) (F8 (dv.toInt64) (F5 (dv.toInt64))) ((dv.toInt64) >>> ((63 : Int32) &&& 0x3f).toInt64) a2 ka2 fx (jo bu vi) h0 n0  P0 P1 P2 g_a2 ne_a1_a2   (own_j0 hb hv) (own_j1 hb hv) (own_j2 hb hv)) (by decide) (by decide) e79 P0 (by decide) (by decide) (g := (mkF m 45 (Sh31 a1 su dv (dv.toInt64) (F5 (dv.toInt64))) [(.long ((dv.toInt64) >>> ((63 : Int32) &&& 0x3f).toInt64)), (.long (F8 (dv.toInt64) (F5 (dv.toInt64)))), (.int (F6 (F5 (dv.toInt64)))), (.int su), (.ref a1)])) rfl (by rw [hml]; rfl) (argsL := [(.int su), (.int (F6 (F5 (dv.toInt64)))), (.long (F8 (dv.toInt64) (F5 (dv.toInt64)))), (.long ((dv.toInt64) >>> ((63 : Int32) &&& 0x3f).toInt64))]) (rest := []) (lenOf pd_28IIJJ29V rfl) rfl (Nat.le_of_eq rfl) (B d4_45)
 obtain ⟨rfl, N80q, K80, p80_0⟩ := hQ80
 have N80 := Fr.app N79 N80q
 have f80_3 := (Keep.refl h0 [a2]).trans K80 (allS (Or.inl (List.mem_of_getElem? (i := 0) rfl)) all0)
 refine GoW.sg (mkF m 48 (Sh31 a1 su dv (dv.toInt64) (F5 (dv.toInt64))) []) (fun t k => st80 t k) ?_
 have M81 : Lon Z T80.heap a2 ka2 (72 : Int32) (adF fx bu vi) := p80_0.cong (fun t ht => own_adF hv t)
 refine GoW.retV X80 hx Bd.returns (B d4_48) Bd.notSynchronized ?_ (by decide) (by decide)
 exact ⟨rfl, N80, f80_3, M81⟩
def Q10 (Z : State) (a1 c1 a2 : Addr) (ka2 : ClassId) (c2 : Addr) (kc2 : ClassId) (fx : Nat → Int64) (gx : Nat → Int64) (h0 : Heap) (n0 : Nat) (v : Option Value) (h : Heap) (L : List Loc) : Prop := v = none ∧ Fr n0 L ∧ (Keep h0 h [a2]) ∧ (Lon Z h a2 ka2 (72 : Int32) (sumF fx gx))
theorem rm10 (l : Launch) (Z : State) (a0 : Array Value) (hw : HW a0 Z) (a1 c1 a2 : Addr) (ka2 : ClassId) (c2 : Addr) (kc2 : ClassId) (fx : Nat → Int64) (gx : Nat → Int64) (h0 : Heap) (n0 : Nat) (P0 : Exa Z h0 a1 "com/example/nearterm/nearterm/embedding/ExactSums") (P1 : Fld Z h0 a1 "com/example/nearterm/nearterm/embedding/ExactSums" "limbs" "[J" (.ref a2)) (P2 : Exa Z h0 c1 "com/example/nearterm/nearterm/embedding/ExactSums") (P3 : Fld Z h0 c1 "com/example/nearterm/nearterm/embedding/ExactSums" "limbs" "[J" (.ref c2)) (P4 : Lon Z h0 a2 ka2 (72 : Int32) fx) (P5 : Lon Z h0 c2 kc2 (72 : Int32) gx) (g_a2 : n0 ≤ a2) (ne_a1_a2 : a1 ≠ a2) (ne_c1_a2 : c1 ≠ a2) (ne_c2_a2 : c2 ≠ a2) :
  MM l Z Y10 prog_7_method_11_code 3 none 0 0 0 0 #[(.ref a1), (.ref c1)] h0 (Q10 Z a1 c1 a2 ka2 c2 kc2 fx gx h0 n0) := by
 refine own_start (fun m => (mkF m 0 (Sh32 a1 c1) [])) (plainFor_of_name pn_com_example_nearterm_nearterm_embedding_ExactSums) (by simp [entryFrame, mkF, argsToLocals, Value.category]) n0 ?_
 intro p e s m below meth c s₁ Bd hx B hml hZ hown hnm X0 e0 N0
 refine GoW.sg (mkF m 2 (Sh33 a1 c1 0) []) (fun t k => XS.iconst X0.here hx rfl (B d10_0) (XS.istoreN X0.here hx rfl (B d10_1) rfl (l' := (Sh33 a1 c1 0)) rfl k)) ?_
 have J82 : ∀ (d i82 : Nat), i82 + d = 72 → ∀ (Tj82 : State) (Lj82 : List Loc) (hj82 : Heap), Stand p l e ({ frames := 0, cells := 0, slots := 0, locals := 0 } : Room) s m #[(.ref a1), (.ref c1)] below meth c Tj82 Lj82 0 0 → Tj82.heap = hj82 → Fr n0 Lj82 → (Exa Z hj82 a1 "com/example/nearterm/nearterm/embedding/ExactSums") → (Fld Z hj82 a1 "com/example/nearterm/nearterm/embedding/ExactSums" "limbs" "[J" (.ref a2)) → (Exa Z hj82 c1 "com/example/nearterm/nearterm/embedding/ExactSums") → (Fld Z hj82 c1 "com/example/nearterm/nearterm/embedding/ExactSums" "limbs" "[J" (.ref c2)) → (Lon Z hj82 a2 ka2 (72 : Int32) (AA fx gx i82)) → (Lon Z hj82 c2 kc2 (72 : Int32) gx) → (Keep h0 hj82 [a2]) → GoW p e below s (Q10 Z a1 c1 a2 ka2 c2 kc2 fx gx h0 n0) 0 0 (Tj82.setTop (mkF m 2 (Sh33 a1 c1 (Int32.ofNat i82)) [])) := by
  intro d
  induction d with
  | zero =>
   intro i82 hi82 Tj82 Lj82 hj82  Xj82 ej82 Nj82 j82_0 j82_1 j82_2 j82_3 j82_4 j82_5 j82_6
   obtain rfl : i82 = 72 := by omega
   show GoW p e below s (Q10 Z a1 c1 a2 ka2 c2 kc2 fx gx h0 n0) 0 0 (Tj82.setTop (mkF m 2 (Sh33 a1 c1 72) []))
   refine GoW.sg (mkF m 4 (Sh33 a1 c1 72) [(.ref a1), (.int 72)]) (fun t k => XS.iloadN Xj82.here hx rfl (B d10_2) rfl (XS.aloadN Xj82.here hx rfl (B d10_3) rfl rfl k)) ?_
   obtain ⟨T83, X83, e83, st83⟩ := getF Xj82 hx hZ hown (host := "") (Or.inl (ww hw 14 rfl)) Via.refl ej82 j82_1 (g := (mkF m 4 (Sh33 a1 c1 72) [(.ref a1), (.int 72)])) rfl rfl (B d10_4)
   refine GoW.sg (mkF m 7 (Sh33 a1 c1 72) [(.ref a2), (.int 72)]) (fun t k => st83 t k) ?_
   refine GoW.sg (mkF m 8 (Sh33 a1 c1 72) [(.int 72), (.int 72)]) (fun t k => own_lenL X83 hx hZ e83 j82_4 (g := (mkF m 7 (Sh33 a1 c1 72) [(.ref a2), (.int 72)])) rfl rfl (B d10_7) t k) ?_
   refine GoW.sg (mkF m 32 (Sh33 a1 c1 72) []) (fun t k => XS.icmpYes X83.here hx rfl (pc0 := 8) (pc' := 32) rfl (B d10_8) rfl (by decide) (by decide) (by decide) k) ?_
   have M84 : Lon Z hj82 a2 ka2 (72 : Int32) (sumF fx gx) := j82_4.cong (fun t ht => own_AAe _ _ t ht)
   refine GoW.retV X83 hx Bd.returns (B d10_32) Bd.notSynchronized ?_ (by decide) (by decide)
   rw [e83]
   exact ⟨rfl, Nj82, j82_6, M84⟩
  | succ d ih82 =>
   intro i82 hi82 Tj82 Lj82 hj82  Xj82 ej82 Nj82 j82_0 j82_1 j82_2 j82_3 j82_4 j82_5 j82_6
   have hl82 : i82 < 72 := by omega
   have hc82 : (Int32.ofNat i82) < (72 : Int32) := own_ltN (n := 72) (by decide) hl82
   refine GoW.sg (mkF m 4 (Sh33 a1 c1 (Int32.ofNat i82)) [(.ref a1), (.int (Int32.ofNat i82))]) (fun t k => XS.iloadN Xj82.here hx rfl (B d10_2) rfl (XS.aloadN Xj82.here hx rfl (B d10_3) rfl rfl k)) ?_
   obtain ⟨T85, X85, e85, st85⟩ := getF Xj82 hx hZ hown (host := "") (Or.inl (ww hw 14 rfl)) Via.refl ej82 j82_1 (g := (mkF m 4 (Sh33 a1 c1 (Int32.ofNat i82)) [(.ref a1), (.int (Int32.ofNat i82))])) rfl rfl (B d10_4)
   refine GoW.sg (mkF m 7 (Sh33 a1 c1 (Int32.ofNat i82)) [(.ref a2), (.int (Int32.ofNat i82))]) (fun t k => st85 t k) ?_
   refine GoW.sg (mkF m 8 (Sh33 a1 c1 (Int32.ofNat i82)) [(.int 72), (.int (Int32.ofNat i82))]) (fun t k => own_lenL X85 hx hZ e85 j82_4 (g := (mkF m 7 (Sh33 a1 c1 (Int32.ofNat i82)) [(.ref a2), (.int (Int32.ofNat i82))])) rfl rfl (B d10_7) t k) ?_
   refine GoW.sg (mkF m 12 (Sh33 a1 c1 (Int32.ofNat i82)) [(.ref a1)]) (fun t k => XS.icmpNo X85.here hx rfl (B d10_8) rfl (tlt hc82).2.1 (XS.aloadN X85.here hx rfl (B d10_11) rfl rfl k)) ?_
   obtain ⟨T86, X86, e86, st86⟩ := getF X85 hx hZ hown (host := "") (Or.inl (ww hw 14 rfl)) Via.refl e85 j82_1 (g := (mkF m 12 (Sh33 a1 c1 (Int32.ofNat i82)) [(.ref a1)])) rfl rfl (B d10_12)
   refine GoW.sg (mkF m 15 (Sh33 a1 c1 (Int32.ofNat i82)) [(.ref a2)]) (fun t k => st86 t k) ?_
   refine GoW.sg (mkF m 16 (Sh33 a1 c1 (Int32.ofNat i82)) [(.int (Int32.ofNat i82)), (.ref a2)]) (fun t k => XS.iloadN X86.here hx rfl (B d10_15) rfl k) ?_
   refine GoW.sg (mkF m 17 (Sh33 a1 c1 (Int32.ofNat i82)) [(.int (Int32.ofNat i82)), (.ref a2), (.int (Int32.ofNat i82)), (.ref a2)]) (fun t k => XT.dup2 X86.here hx rfl (B d10_16) rfl rfl rfl k) ?_
   refine GoW.sg (mkF m 18 (Sh33 a1 c1 (Int32.ofNat i82)) [(.long (AA fx gx i82 i82)), (.int (Int32.ofNat i82)), (.ref a2)]) (fun t k => own_ldL X86 hx hZ e86 j82_4 (i := i82) (own_ixN (n := 72) rfl (by decide) hl82) (g := (mkF m 17 (Sh33 a1 c1 (Int32.ofNat i82)) [(.int (Int32.ofNat i82)), (.ref a2), (.int (Int32.ofNat i82)), (.ref a2)])) rfl rfl (B d10_17) t k) ?_
   rw [show (AA fx gx i82 i82) = (fx i82) from own_AAi _ _ _]
   show GoW p e below s (Q10 Z a1 c1 a2 ka2 c2 kc2 fx gx h0 n0) 0 0 (T86.setTop (mkF m 18 (Sh33 a1 c1 (Int32.ofNat i82)) [(.long (fx i82)), (.int (Int32.ofNat i82)), (.ref a2)]))
   refine GoW.sg (mkF m 19 (Sh33 a1 c1 (Int32.ofNat i82)) [(.ref c1), (.long (fx i82)), (.int (Int32.ofNat i82)), (.ref a2)]) (fun t k => XS.aloadN X86.here hx rfl (B d10_18) rfl rfl k) ?_
   obtain ⟨T87, X87, e87, st87⟩ := getF X86 hx hZ hown (host := "") (Or.inl (ww hw 14 rfl)) Via.refl e86 j82_3 (g := (mkF m 19 (Sh33 a1 c1 (Int32.ofNat i82)) [(.ref c1), (.long (fx i82)), (.int (Int32.ofNat i82)), (.ref a2)])) rfl rfl (B d10_19)
   refine GoW.sg (mkF m 22 (Sh33 a1 c1 (Int32.ofNat i82)) [(.ref c2), (.long (fx i82)), (.int (Int32.ofNat i82)), (.ref a2)]) (fun t k => st87 t k) ?_
   refine GoW.sg (mkF m 23 (Sh33 a1 c1 (Int32.ofNat i82)) [(.int (Int32.ofNat i82)), (.ref c2), (.long (fx i82)), (.int (Int32.ofNat i82)), (.ref a2)]) (fun t k => XS.iloadN X87.here hx rfl (B d10_22) rfl k) ?_
   refine GoW.sg (mkF m 24 (Sh33 a1 c1 (Int32.ofNat i82)) [(.long (gx i82)), (.long (fx i82)), (.int (Int32.ofNat i82)), (.ref a2)]) (fun t k => own_ldL X87 hx hZ e87 j82_5 (i := i82) (own_ixN (n := 72) rfl (by decide) hl82) (g := (mkF m 23 (Sh33 a1 c1 (Int32.ofNat i82)) [(.int (Int32.ofNat i82)), (.ref c2), (.long (fx i82)), (.int (Int32.ofNat i82)), (.ref a2)])) rfl rfl (B d10_23) t k) ?_
   refine GoW.sg (mkF m 25 (Sh33 a1 c1 (Int32.ofNat i82)) [(.long ((fx i82) + (gx i82))), (.int (Int32.ofNat i82)), (.ref a2)]) (fun t k => XS.ladd X87.here hx rfl (B d10_24) rfl k) ?_
   obtain ⟨T88, h88, X88, e88, W88, M88, st88⟩ := own_stL X87 hx hZ e87 j82_4 (i := i82) (own_ixN (n := 72) rfl (by decide) hl82) (g := (mkF m 25 (Sh33 a1 c1 (Int32.ofNat i82)) [(.long ((fx i82) + (gx i82))), (.int (Int32.ofNat i82)), (.ref a2)])) rfl rfl (B d10_25)
   have f88_1 := j82_0.wr W88
   have f88_2 := j82_1.other W88 (Or.inl ne_a1_a2)
   have f88_3 := j82_2.wr W88
   have f88_4 := j82_3.other W88 (Or.inl ne_c1_a2)
   have f88_5 := j82_5.other W88 ne_c2_a2
   have f88_6 := j82_6.wr W88 (Or.inl (List.mem_of_getElem? (i := 0) rfl))
   have N88 := Fr.snoc X88 Nj82 g_a2
   refine GoW.sg (mkF m 26 (Sh33 a1 c1 (Int32.ofNat i82)) []) (fun t k => st88 t k) ?_
   refine GoW.sg (mkF m 2 (Sh33 a1 c1 ((Int32.ofNat i82) + (1 : Int32))) []) (fun t k => XS.iinc X88.here hx rfl (B d10_26) rfl (l' := (Sh33 a1 c1 ((Int32.ofNat i82) + (1 : Int32)))) rfl (XS.goto X88.here hx rfl (pc0 := 29) (pc' := 2) rfl (B d10_29) (by decide) (by decide) k)) ?_
   rw [show ((Int32.ofNat i82) + (1 : Int32)) = (Int32.ofNat (i82 + 1)) from own_inc i82]
   show GoW p e below s (Q10 Z a1 c1 a2 ka2 c2 kc2 fx gx h0 n0) 0 0 (T88.setTop (mkF m 2 (Sh33 a1 c1 (Int32.ofNat (i82 + 1))) []))
   have M89 : Lon Z h88 a2 ka2 (72 : Int32) (AA fx gx (i82 + 1)) := M88.cong (fun t ht => own_AAs _ _ _ t)
   exact ih82 (i82 + 1) (by omega) _ _ _  X88 e88 N88 f88_1 f88_2 f88_3 f88_4 M89 f88_5 f88_6
 have M90 : Lon Z h0 a2 ka2 (72 : Int32) (AA fx gx 0) := P4.cong (fun t ht => own_AA0 _ _ t)
 exact J82 72 0 rfl _ _ _  X0 e0 N0 P0 P1 P2 P3 M90 P5 (Keep.refl h0 [a2])
def Q3_1 (Z : State)  (h0 : Heap) (n0 : Nat) (v : Option Value) (h : Heap) (L : List Loc) : Prop := v = some (.int 72) ∧ Fr n0 L ∧ (h = h0)
theorem rm3_1 (l : Launch) (Z : State) (a0 : Array Value) (hw : HW a0 Z) (h0 : Heap) (n0 : Nat) :
  MM l Z Y3 jdk_29_method_28_code 4 (some .int) 0 0 0 0 #[(.int 2), (.int 36)] h0 (Q3_1 Z  h0 n0) := by
 refine own_start (fun m => (mkF m 0 (Sh35 2 36) [])) (Jvm.Free.JP.mathPlain rfl (by decide +kernel)) (by simp [entryFrame, mkF, argsToLocals, Value.category]) n0 ?_
 intro p e s m below meth c s₁ Bd hx B hml hZ hown hnm X0 e0 N0
 refine GoW.sg (mkF m 1 (Sh35 2 36) [(.int 2)]) (fun t k => XS.iloadN X0.here hx rfl (B d3_0) rfl k) ?_
 refine GoW.st (fun t k => XS.i2l X0.here hx rfl (B d3_1) rfl k) ?_
 rw [show (Int32.toInt64 (2 : Int32)) = (2 : Int64) from by decide]
 show GoW p e below s (Q3_1 Z  h0 n0) 0 0 (s₁.setTop (mkF m 2 (Sh35 2 36) [(.long 2)]))
 refine GoW.sg (mkF m 3 (Sh35 2 36) [(.int 36), (.long 2)]) (fun t k => XS.iloadN X0.here hx rfl (B d3_2) rfl k) ?_
 refine GoW.st (fun t k => XS.i2l X0.here hx rfl (B d3_3) rfl k) ?_
 rw [show (Int32.toInt64 (36 : Int32)) = (36 : Int64) from by decide]
 show GoW p e below s (Q3_1 Z  h0 n0) 0 0 (s₁.setTop (mkF m 4 (Sh35 2 36) [(.long 36), (.long 2)]))
 refine GoW.st (fun t k => XS.lmul X0.here hx rfl (B d3_4) rfl k) ?_
 rw [show ((2 : Int64) * (36 : Int64)) = (72 : Int64) from by decide]
 show GoW p e below s (Q3_1 Z  h0 n0) 0 0 (s₁.setTop (mkF m 5 (Sh35 2 36) [(.long 72)]))
 refine GoW.sg (mkF m 7 (Sh36 2 36 72) [(.long 72)]) (fun t k => XS.lstoreN X0.here hx rfl (B d3_5) rfl (l' := (Sh36 2 36 72)) rfl (XS.lloadN X0.here hx rfl (B d3_6) rfl k)) ?_
 refine GoW.st (fun t k => XS.l2i X0.here hx rfl (B d3_7) rfl k) ?_
 rw [show (72 : Int64).toInt32 = (72 : Int32) from by decide]
 show GoW p e below s (Q3_1 Z  h0 n0) 0 0 (s₁.setTop (mkF m 8 (Sh36 2 36 72) [(.int 72)]))
 refine GoW.st (fun t k => XS.i2l X0.here hx rfl (B d3_8) rfl k) ?_
 rw [show (Int32.toInt64 (72 : Int32)) = (72 : Int64) from by decide]
 show GoW p e below s (Q3_1 Z  h0 n0) 0 0 (s₁.setTop (mkF m 9 (Sh36 2 36 72) [(.long 72)]))
 refine GoW.sg (mkF m 25 (Sh36 2 36 72) [(.long 72)]) (fun t k => XS.lloadN X0.here hx rfl (B d3_9) rfl (XS.lcmp X0.here hx rfl (B d3_10) rfl (XS.ifYes X0.here hx rfl (pc0 := 11) (pc' := 24) rfl (B d3_11) rfl (by decide) (by decide) (by decide) (XS.lloadN X0.here hx rfl (B d3_24) rfl k)))) ?_
 refine GoW.st (fun t k => XS.l2i X0.here hx rfl (B d3_25) rfl k) ?_
 rw [show (72 : Int64).toInt32 = (72 : Int32) from by decide]
 show GoW p e below s (Q3_1 Z  h0 n0) 0 0 (s₁.setTop (mkF m 26 (Sh36 2 36 72) [(.int 72)]))
 refine GoW.retI X0 hx Bd.returns (B d3_26) Bd.notSynchronized ?_ (by decide) (by decide)
 rw [e0]
 exact ⟨rfl, N0, rfl⟩
def Q1_2 (Z : State) (a1c : Addr) (h0 : Heap) (n0 : Nat) (v : Option Value) (h : Heap) (L : List Loc) : Prop := ∃ e0 : Addr, ∃ ke0 : ClassId, v = none ∧ Fr n0 L ∧ (Keep h0 h [a1c]) ∧ (Exa Z h a1c "com/example/nearterm/nearterm/embedding/ExactSums") ∧ (Fld Z h a1c "com/example/nearterm/nearterm/embedding/ExactSums" "limbs" "[J" (.ref e0)) ∧ (Lon Z h e0 ke0 (72 : Int32) (fun _ => 0)) ∧ (h0.size ≤ e0)
theorem rm1_2 (l : Launch) (Z : State) (a0 : Array Value) (hw : HW a0 Z) (a1c : Addr) (h0 : Heap) (n0 : Nat) (Z0 : n0 ≤ h0.size) (P0 : Exa Z h0 a1c "com/example/nearterm/nearterm/embedding/ExactSums") (P1 : Fld Z h0 a1c "com/example/nearterm/nearterm/embedding/ExactSums" "limbs" "[J" .null) (g_a1c : n0 ≤ a1c) :
  MM l Z Y1 prog_7_method_1_code 2 none 1 1 72 16 #[(.ref a1c), (.int 2)] h0 (Q1_2 Z a1c h0 n0) := by
 refine own_start (fun m => (mkF m 0 #[.val (.ref a1c), .val (.int 2)] [])) (plainFor_of_name pn_com_example_nearterm_nearterm_embedding_ExactSums) (by simp [entryFrame, mkF, argsToLocals, Value.category]) n0 ?_
 intro p e s m below meth c s₁ Bd hx B hml hZ hown hnm X0 e0 N0
 refine GoW.sg (mkF m 1 #[.val (.ref a1c), .val (.int 2)] [(.ref a1c)]) (fun t k => XS.aloadN X0.here hx rfl (B d1_0) rfl rfl k) ?_
 obtain ⟨T96, X96, e96, st96⟩ := initO X0 hx hZ hown (ww hw 6 rfl) (ww hw 7 rfl) (ww hw 8 rfl) e0 (g := (mkF m 1 #[.val (.ref a1c), .val (.int 2)] [(.ref a1c)])) rfl (by rw [hml]; rfl) rfl (B d1_1) (by decide) (W := 0) (Nat.le_of_eq rfl) (by decide)
 refine GoW.sg (mkF m 4 #[.val (.ref a1c), .val (.int 2)] []) (fun t k => st96 t k) ?_
 refine GoW.sg (mkF m 8 #[.val (.ref a1c), .val (.int 2)] [(.int 36), (.int 2), (.ref a1c)]) (fun t k => XS.aloadN X96.here hx rfl (B d1_4) rfl rfl (XS.iloadN X96.here hx rfl (B d1_5) rfl (XS.bipush X96.here hx rfl (B d1_6) k))) ?_
 obtain ⟨_, T97, L97, X97, hQ97, st97⟩ := own_callS X96 hx hZ hown (y := Y3) (ww hw 9 rfl) (ww hw 10 rfl) (ww hw 11 rfl) (ww hw 12 rfl) (by decide) 1 (rm3_1 l Z a0 hw   h0 n0       ) (by decide) (by decide) e96 (by decide) (by decide) (g := (mkF m 8 #[.val (.ref a1c), .val (.int 2)] [(.int 36), (.int 2), (.ref a1c)])) rfl (by rw [hml]; rfl) (argsL := [(.int (2 : Int32)), (.int (36 : Int32))]) (rest := [(.ref a1c)]) (lenOf pd_28II29I rfl) rfl (Nat.le_of_eq rfl) (B d1_8)
 obtain ⟨rfl, N97q, e97⟩ := hQ97
 have N97 := Fr.app N0 N97q
 refine GoW.sg (mkF m 11 #[.val (.ref a1c), .val (.int 2)] [(.int 72), (.ref a1c)]) (fun t k => st97 t k) ?_
 obtain ⟨T98, h98, k98, X98, e98, E98, A98, st98⟩ := newP X97 hx hZ (ww hw 13 rfl) e97 (g := (mkF m 11 #[.val (.ref a1c), .val (.int 2)] [(.int 72), (.ref a1c)])) rfl (B d1_11) rfl (by decide) (cap := 72) (by decide) (by decide) (by decide) (by decide)
 obtain ⟨b98, g98⟩ : ∃ z, z = h0.size := ⟨_, rfl⟩
 rw [← g98] at A98 st98
 have sz_b98 : h0.size ≤ b98 := Nat.le_trans (Keep.refl h0 [a1c]).1 (Nat.le_of_eq g98.symm)
 have ne_a1c_b98 : a1c ≠ b98 := Nat.ne_of_lt (Nat.lt_of_lt_of_eq P0.lt g98.symm)
 have f98_1 := P0.ext E98
 have f98_2 := P1.ext E98
 have f98_3 := (Keep.refl h0 [a1c]).ext E98
 have M98 : Lon Z h98 b98 k98 (72 : Int32) (fun _ => 0) := Lon.new A98 (by decide)
 refine GoW.sg (mkF m 13 #[.val (.ref a1c), .val (.int 2)] [(.ref b98), (.ref a1c)]) (fun t k => st98 t k) ?_
 obtain ⟨T99, h99, X99, e99, W99, st99⟩ := putF X98 hx hZ hown (host := "") (Or.inl (ww hw 14 rfl)) Via.refl e98 f98_2 f98_1 (Or.inr ⟨(ww hw 15 rfl), rfl, hnm⟩) (ww hw 1 rfl) (ty := (.array .long)) (by decide) rfl rfl (g := (mkF m 13 #[.val (.ref a1c), .val (.int 2)] [(.ref b98), (.ref a1c)])) rfl rfl (B d1_13)
 have N99 := Fr.snoc X99 N97 g_a1c
 have f99_5 := f98_1.wr W99
 have f99_6 := f98_3.wr W99 (Or.inl (List.mem_of_getElem? (i := 0) rfl))
 have f99_8 := M98.other W99 (Ne.symm ne_a1c_b98)
 have F99limbs : Fld Z h99 a1c "com/example/nearterm/nearterm/embedding/ExactSums" "limbs" "[J" (.ref b98) := f98_2.same W99
 refine GoW.sg (mkF m 16 #[.val (.ref a1c), .val (.int 2)] []) (fun t k => st99 t k) ?_
 refine GoW.retV X99 hx Bd.returns (B d1_16) Bd.notSynchronized ?_ (by decide) (by decide)
 rw [e99]
 exact ⟨b98, k98, rfl, N99, f99_6, f99_5, F99limbs, f99_8, sz_b98⟩
theorem ef0_rm0 (m : MethodId) (q1 : Int32) (q2 : Int32) (q3 : Int32) (q4 : Int32) : entryFrame m #[(.int q1), (.int q2), (.int q3), (.int q4)] maxLocals = (mkF m 0 #[.val (.int q1), .val (.int q2), .val (.int q3), .val (.int q4), .unset, .unset, .unset, .unset, .unset, .unset, .unset, .unset] []) := by first | (simp [entryFrame, mkF, argsToLocals, Value.category, maxLocals]; done) | rfl
theorem rm0 (l : Launch) (Z : State) (a0 : Array Value) (hw : ∀ d ∈ tables_1, d.before a0 Z = true) (ws : List Jvm.Cond) (q1 q2 : Int32) (q3 q4 : Int32)  (h0 : Heap) (n0 : Nat) (Z0 : n0 ≤ h0.size)  :
    MetFree l x (head1 (Jvm.Cond.code x code maxLocals ret :: ws) room_1) (fun a U => a = #[(.int q1), (.int q2), (.int q3), (.int q4)] ∧ Z.Warmed39 U.vm ∧ U.heap = h0) (fun _ _ _ _ _ => True) (fun _ U o U' => ∃ v L, o = .returned v ∧ (ValQ (.int (1 : Int32)) n0) v U'.heap L ∧ FrameEnd U o U' L room_1.cells room_1.slots) := by
 refine MetFree.of_bodySF (plainFor_of_name pn_com_example_nearterm_nearterm_embedding_ExactSumsAddAllPinLaw) hisR ?_
 intro p e s m args below meth c s₁ Bd hml0 hP hK
 obtain ⟨rfl, hZ, hh⟩ := hP
 have hx := Bd.exec
 have B : ∀ {pc : Nat} {r : Except ClassFile.DecodeError (ClassFile.Instr × Nat)}, ClassFile.decode code pc = r → ClassFile.decode c.code pc = r := fun h => hb Bd.bytes h
 have hml : c.maxLocals = 12 := hml0
 have hown : s.vm.findClass "com/example/nearterm/nearterm/embedding/ExactSumsAddAllPinLaw" = some m.cls := findClass_of_methodNamed Bd.named
 have hnm := (name_of_methodNamed Bd.named Bd.method).1
 have X0 : Stand p l e room_1 s m #[(.int q1), (.int q2), (.int q3), (.int q4)] below meth c s₁ [] 0 0 := Stand.of_body Bd
 have e0 : s₁.heap = h0 := by rw [← hh, Bd.state]; rfl
 have N0 := Fr.nil n0
 refine GoW.mk ?_
 refine GoW.st (fun t k => castTop (ef0_rm0 m q1 q2 q3 q4) k) ?_
 show GoW p e below s (ValQ (.int (1 : Int32)) n0) room_1.cells room_1.slots (s₁.setTop (mkF m 0 (Sh34 q1 q2 q3 q4) []))
 obtain ⟨T91, h91, X91, e91, E91, A91, D91, -, st91⟩ := newO X0 hx hZ hown (ww hw 0 rfl) (ww hw 1 rfl) (ww hw 2 rfl) e0 (g := (mkF m 0 (Sh34 q1 q2 q3 q4) [])) rfl (B at_0) (by decide) (by decide)
 obtain ⟨b91, g91⟩ : ∃ z, z = h0.size := ⟨_, rfl⟩
 rw [← g91] at A91 D91 st91
 have g_b91 : n0 ≤ b91 := Nat.le_trans Z0 (Nat.le_of_eq g91.symm)
 have f91_1 := Nat.le_trans Z0 E91.1
 have F91limbs : Fld Z h91 b91 "com/example/nearterm/nearterm/embedding/ExactSums" "limbs" "[J" .null := D91 (Or.inr (ww hw 15 rfl)) (ty := (.array .long)) (by decide)
 refine GoW.sg (mkF m 3 (Sh34 q1 q2 q3 q4) [(.ref b91)]) (fun t k => st91 t k) ?_
 refine GoW.sg (mkF m 5 (Sh34 q1 q2 q3 q4) [(.int 2), (.ref b91), (.ref b91)]) (fun t k => XS.dup X91.here hx rfl (B at_3) rfl rfl (XS.iconst X91.here hx rfl (B at_4) k)) ?_
 obtain ⟨_, T100, L100, X100, hQ100, st100⟩ := own_spec X91 hx hZ (y := Y1) rfl hown (ww hw 3 rfl) (ww hw 4 rfl) (ww hw 2 rfl) (ww hw 5 rfl) (by decide) 1 (a := b91) (rm1_2 l Z a0 hw b91  h91 n0 f91_1 A91 F91limbs g_b91    ) (by decide) (by decide) e91 (by decide) (by decide) (g := (mkF m 5 (Sh34 q1 q2 q3 q4) [(.int 2), (.ref b91), (.ref b91)])) rfl (by rw [hml]; rfl) (argsL := [(.int (2 : Int32))]) (rest := [(.ref b91)]) (lenOf pd_28I29V rfl) rfl (Nat.le_of_eq rfl) (B at_5)
 obtain ⟨b100_e0, k100_ke0, rfl, N100q, K100, p100_0, p100_1, p100_2, hz_b100_e0⟩ := hQ100
 have g_b100_e0 : n0 ≤ b100_e0 := Nat.le_trans f91_1 hz_b100_e0
 have ne_b91_b100_e0 : b91 ≠ b100_e0 := Nat.ne_of_lt (Nat.lt_of_lt_of_le A91.lt hz_b100_e0)
 have N100 := Fr.app N0 N100q
 have f100_2 := Nat.le_trans f91_1 K100.1
 refine GoW.sg (mkF m 8 (Sh34 q1 q2 q3 q4) [(.ref b91)]) (fun t k => st100 t k) ?_
 refine GoW.sg (mkF m 10 (Sh37 q1 q2 q3 q4 b91) []) (fun t k => XS.astore X100.here hx rfl (B at_8) rfl rfl (l' := (Sh37 q1 q2 q3 q4 b91)) rfl k) ?_
 obtain ⟨T101, h101, X101, e101, E101, A101, D101, -, st101⟩ := newO X100 hx hZ hown (ww hw 0 rfl) (ww hw 1 rfl) (ww hw 2 rfl) rfl (g := (mkF m 10 (Sh37 q1 q2 q3 q4 b91) [])) rfl (B at_10) (by decide) (by decide)
 obtain ⟨b101, g101⟩ : ∃ z, z = T100.heap.size := ⟨_, rfl⟩
 rw [← g101] at A101 D101 st101
 have g_b101 : n0 ≤ b101 := Nat.le_trans f100_2 (Nat.le_of_eq g101.symm)
 have ne_b91_b101 : b91 ≠ b101 := Nat.ne_of_lt (Nat.lt_of_lt_of_eq p100_0.lt g101.symm)
 have ne_b100_e0_b101 : b100_e0 ≠ b101 := Nat.ne_of_lt (Nat.lt_of_lt_of_eq p100_2.lt g101.symm)
 have f101_3 := Nat.le_trans f100_2 E101.1
 have f101_4 := p100_0.ext E101
 have f101_5 := p100_1.ext E101
 have f101_6 := p100_2.ext E101
 have F101limbs : Fld Z h101 b101 "com/example/nearterm/nearterm/embedding/ExactSums" "limbs" "[J" .null := D101 (Or.inr (ww hw 15 rfl)) (ty := (.array .long)) (by decide)
 refine GoW.sg (mkF m 13 (Sh37 q1 q2 q3 q4 b91) [(.ref b101)]) (fun t k => st101 t k) ?_
 refine GoW.sg (mkF m 15 (Sh37 q1 q2 q3 q4 b91) [(.int 2), (.ref b101), (.ref b101)]) (fun t k => XS.dup X101.here hx rfl (B at_13) rfl rfl (XS.iconst X101.here hx rfl (B at_14) k)) ?_
 obtain ⟨_, T102, L102, X102, hQ102, st102⟩ := own_spec X101 hx hZ (y := Y1) rfl hown (ww hw 3 rfl) (ww hw 4 rfl) (ww hw 2 rfl) (ww hw 5 rfl) (by decide) 1 (a := b101) (rm1_2 l Z a0 hw b101  h101 n0 f101_3 A101 F101limbs g_b101    ) (by decide) (by decide) e101 (by decide) (by decide) (g := (mkF m 15 (Sh37 q1 q2 q3 q4 b91) [(.int 2), (.ref b101), (.ref b101)])) rfl (by rw [hml]; rfl) (argsL := [(.int (2 : Int32))]) (rest := [(.ref b101)]) (lenOf pd_28I29V rfl) rfl (Nat.le_of_eq rfl) (B at_15)
 obtain ⟨b102_e0, k102_ke0, rfl, N102q, K102, p102_0, p102_1, p102_2, hz_b102_e0⟩ := hQ102
 have g_b102_e0 : n0 ≤ b102_e0 := Nat.le_trans f101_3 hz_b102_e0
 have ne_b91_b102_e0 : b91 ≠ b102_e0 := Nat.ne_of_lt (Nat.lt_of_lt_of_le f101_4.lt hz_b102_e0)
 have ne_b100_e0_b102_e0 : b100_e0 ≠ b102_e0 := Nat.ne_of_lt (Nat.lt_of_lt_of_le f101_6.lt hz_b102_e0)
 have ne_b101_b102_e0 : b101 ≠ b102_e0 := Nat.ne_of_lt (Nat.lt_of_lt_of_le A101.lt hz_b102_e0)
 have N102 := Fr.app N100 N102q
 have f102_7 := Nat.le_trans f101_3 K102.1
 have f102_8 := f101_4.keep K102
 have f102_9 := f101_5.keep K102 (ninS ne_b91_b101 nin0)
 have f102_10 := f101_6.keep K102 (ninS ne_b100_e0_b101 nin0)
 refine GoW.sg (mkF m 18 (Sh37 q1 q2 q3 q4 b91) [(.ref b101)]) (fun t k => st102 t k) ?_
 refine GoW.sg (mkF m 24 (Sh38 q1 q2 q3 q4 b91 b101) [(.int q1), (.int 0), (.ref b91)]) (fun t k => XS.astore X102.here hx rfl (B at_18) rfl rfl (l' := (Sh38 q1 q2 q3 q4 b91 b101)) rfl (XS.aload X102.here hx rfl (B at_20) rfl rfl (XS.iconst X102.here hx rfl (B at_22) (XS.iloadN X102.here hx rfl (B at_23) rfl k)))) ?_
 obtain ⟨d103, hd103⟩ : ∃ d : UInt64, d = FP.l2d q1.toInt64 := ⟨_, rfl⟩
 refine GoW.sg (mkF m 25 (Sh38 q1 q2 q3 q4 b91 b101) [(.double d103), (.int 0), (.ref b91)]) (fun t k => XS.i2dS X102.here hx rfl (B at_24) rfl (v := d103) ((i2d_w _).trans hd103.symm) k) ?_
 obtain ⟨_, T104, L104, X104, hQ104, st104⟩ := own_virt X102 hx hZ (y := Y4) hown (ww hw 16 rfl) (ww hw 17 rfl) (ww hw 19 rfl) (ww hw 18 rfl) (ww hw 20 rfl) (ww hw 2 rfl) (by decide) 0 (a := b91) (rm4 l Z a0 hw b91 (0 : Int32) d103 q1 b100_e0 k100_ke0 (fun _ => 0) 0 T102.heap n0  f102_8 f102_9 f102_10 g_b100_e0 ne_b91_b100_e0  hd103 (Or.inl ⟨rfl, rfl⟩)) (by decide) (by decide) rfl f102_8 (by decide) (by decide) (g := (mkF m 25 (Sh38 q1 q2 q3 q4 b91 b101) [(.double d103), (.int 0), (.ref b91)])) rfl (by rw [hml]; rfl) (argsL := [(.int (0 : Int32)), (.double d103)]) (rest := []) (lenOf pd_28ID29V rfl) rfl (Nat.le_of_eq rfl) (B at_25)
 obtain ⟨rfl, N104q, K104, p104_0⟩ := hQ104
 have N104 := Fr.app N102 N104q
 have f104_11 := Nat.le_trans f102_7 K104.1
 have f104_12 := f102_8.keep K104
 have f104_13 := f102_9.keep K104 (ninS ne_b91_b100_e0 nin0)
 have f104_14 := p102_0.keep K104
 have f104_15 := p102_1.keep K104 (ninS (Ne.symm ne_b100_e0_b101) nin0)
 have f104_16 := p102_2.keep K104 (ninS (Ne.symm ne_b100_e0_b102_e0) nin0)
 refine GoW.sg (mkF m 28 (Sh38 q1 q2 q3 q4 b91 b101) []) (fun t k => st104 t k) ?_
 refine GoW.sg (mkF m 32 (Sh38 q1 q2 q3 q4 b91 b101) [(.int q2), (.int 1), (.ref b91)]) (fun t k => XS.aload X104.here hx rfl (B at_28) rfl rfl (XS.iconst X104.here hx rfl (B at_30) (XS.iloadN X104.here hx rfl (B at_31) rfl k))) ?_
 obtain ⟨d105, hd105⟩ : ∃ d : UInt64, d = FP.l2d q2.toInt64 := ⟨_, rfl⟩
 refine GoW.sg (mkF m 33 (Sh38 q1 q2 q3 q4 b91 b101) [(.double d105), (.int 1), (.ref b91)]) (fun t k => XS.i2dS X104.here hx rfl (B at_32) rfl (v := d105) ((i2d_w _).trans hd105.symm) k) ?_
 obtain ⟨_, T106, L106, X106, hQ106, st106⟩ := own_virt X104 hx hZ (y := Y4) hown (ww hw 16 rfl) (ww hw 17 rfl) (ww hw 19 rfl) (ww hw 18 rfl) (ww hw 20 rfl) (ww hw 2 rfl) (by decide) 0 (a := b91) (rm4 l Z a0 hw b91 (1 : Int32) d105 q2 b100_e0 k100_ke0 (adF (fun _ => 0) 0 q1) 36 T104.heap n0  f104_12 f104_13 p104_0 g_b100_e0 ne_b91_b100_e0  hd105 (Or.inr ⟨rfl, rfl⟩)) (by decide) (by decide) rfl f104_12 (by decide) (by decide) (g := (mkF m 33 (Sh38 q1 q2 q3 q4 b91 b101) [(.double d105), (.int 1), (.ref b91)])) rfl (by rw [hml]; rfl) (argsL := [(.int (1 : Int32)), (.double d105)]) (rest := []) (lenOf pd_28ID29V rfl) rfl (Nat.le_of_eq rfl) (B at_33)
 obtain ⟨rfl, N106q, K106, p106_0⟩ := hQ106
 have N106 := Fr.app N104 N106q
 have f106_17 := Nat.le_trans f104_11 K106.1
 have f106_18 := f104_12.keep K106
 have f106_19 := f104_13.keep K106 (ninS ne_b91_b100_e0 nin0)
 have f106_20 := f104_14.keep K106
 have f106_21 := f104_15.keep K106 (ninS (Ne.symm ne_b100_e0_b101) nin0)
 have f106_22 := f104_16.keep K106 (ninS (Ne.symm ne_b100_e0_b102_e0) nin0)
 refine GoW.sg (mkF m 36 (Sh38 q1 q2 q3 q4 b91 b101) []) (fun t k => st106 t k) ?_
 refine GoW.sg (mkF m 40 (Sh38 q1 q2 q3 q4 b91 b101) [(.int q3), (.int 0), (.ref b101)]) (fun t k => XS.aload X106.here hx rfl (B at_36) rfl rfl (XS.iconst X106.here hx rfl (B at_38) (XS.iloadN X106.here hx rfl (B at_39) rfl k))) ?_
 obtain ⟨d107, hd107⟩ : ∃ d : UInt64, d = FP.l2d q3.toInt64 := ⟨_, rfl⟩
 refine GoW.sg (mkF m 41 (Sh38 q1 q2 q3 q4 b91 b101) [(.double d107), (.int 0), (.ref b101)]) (fun t k => XS.i2dS X106.here hx rfl (B at_40) rfl (v := d107) ((i2d_w _).trans hd107.symm) k) ?_
 obtain ⟨_, T108, L108, X108, hQ108, st108⟩ := own_virt X106 hx hZ (y := Y4) hown (ww hw 16 rfl) (ww hw 17 rfl) (ww hw 19 rfl) (ww hw 18 rfl) (ww hw 20 rfl) (ww hw 2 rfl) (by decide) 0 (a := b101) (rm4 l Z a0 hw b101 (0 : Int32) d107 q3 b102_e0 k102_ke0 (fun _ => 0) 0 T106.heap n0  f106_20 f106_21 f106_22 g_b102_e0 ne_b101_b102_e0  hd107 (Or.inl ⟨rfl, rfl⟩)) (by decide) (by decide) rfl f106_20 (by decide) (by decide) (g := (mkF m 41 (Sh38 q1 q2 q3 q4 b91 b101) [(.double d107), (.int 0), (.ref b101)])) rfl (by rw [hml]; rfl) (argsL := [(.int (0 : Int32)), (.double d107)]) (rest := []) (lenOf pd_28ID29V rfl) rfl (Nat.le_of_eq rfl) (B at_41)
 obtain ⟨rfl, N108q, K108, p108_0⟩ := hQ108
 have N108 := Fr.app N106 N108q
 have f108_23 := Nat.le_trans f106_17 K108.1
 have f108_24 := f106_18.keep K108
 have f108_25 := f106_19.keep K108 (ninS ne_b91_b102_e0 nin0)
 have f108_26 := p106_0.keep K108 (ninS ne_b100_e0_b102_e0 nin0)
 have f108_27 := f106_20.keep K108
 have f108_28 := f106_21.keep K108 (ninS ne_b101_b102_e0 nin0)
 refine GoW.sg (mkF m 44 (Sh38 q1 q2 q3 q4 b91 b101) []) (fun t k => st108 t k) ?_
 refine GoW.sg (mkF m 48 (Sh38 q1 q2 q3 q4 b91 b101) [(.int q4), (.int 1), (.ref b101)]) (fun t k => XS.aload X108.here hx rfl (B at_44) rfl rfl (XS.iconst X108.here hx rfl (B at_46) (XS.iloadN X108.here hx rfl (B at_47) rfl k))) ?_
 obtain ⟨d109, hd109⟩ : ∃ d : UInt64, d = FP.l2d q4.toInt64 := ⟨_, rfl⟩
 refine GoW.sg (mkF m 49 (Sh38 q1 q2 q3 q4 b91 b101) [(.double d109), (.int 1), (.ref b101)]) (fun t k => XS.i2dS X108.here hx rfl (B at_48) rfl (v := d109) ((i2d_w _).trans hd109.symm) k) ?_
 obtain ⟨_, T110, L110, X110, hQ110, st110⟩ := own_virt X108 hx hZ (y := Y4) hown (ww hw 16 rfl) (ww hw 17 rfl) (ww hw 19 rfl) (ww hw 18 rfl) (ww hw 20 rfl) (ww hw 2 rfl) (by decide) 0 (a := b101) (rm4 l Z a0 hw b101 (1 : Int32) d109 q4 b102_e0 k102_ke0 (adF (fun _ => 0) 0 q3) 36 T108.heap n0  f108_27 f108_28 p108_0 g_b102_e0 ne_b101_b102_e0  hd109 (Or.inr ⟨rfl, rfl⟩)) (by decide) (by decide) rfl f108_27 (by decide) (by decide) (g := (mkF m 49 (Sh38 q1 q2 q3 q4 b91 b101) [(.double d109), (.int 1), (.ref b101)])) rfl (by rw [hml]; rfl) (argsL := [(.int (1 : Int32)), (.double d109)]) (rest := []) (lenOf pd_28ID29V rfl) rfl (Nat.le_of_eq rfl) (B at_49)
 obtain ⟨rfl, N110q, K110, p110_0⟩ := hQ110
 have N110 := Fr.app N108 N110q
 have f110_29 := Nat.le_trans f108_23 K110.1
 have f110_30 := f108_24.keep K110
 have f110_31 := f108_25.keep K110 (ninS ne_b91_b102_e0 nin0)
 have f110_32 := f108_26.keep K110 (ninS ne_b100_e0_b102_e0 nin0)
 have f110_33 := f108_27.keep K110
 have f110_34 := f108_28.keep K110 (ninS ne_b101_b102_e0 nin0)
 refine GoW.sg (mkF m 52 (Sh38 q1 q2 q3 q4 b91 b101) []) (fun t k => st110 t k) ?_
 refine GoW.sg (mkF m 56 (Sh38 q1 q2 q3 q4 b91 b101) [(.ref b101), (.ref b91)]) (fun t k => XS.aload X110.here hx rfl (B at_52) rfl rfl (XS.aload X110.here hx rfl (B at_54) rfl rfl k)) ?_
 obtain ⟨_, T111, L111, X111, hQ111, st111⟩ := own_virt X110 hx hZ (y := Y10) hown (ww hw 44 rfl) (ww hw 45 rfl) (ww hw 47 rfl) (ww hw 46 rfl) (ww hw 48 rfl) (ww hw 2 rfl) (by decide) 0 (a := b91) (rm10 l Z a0 hw b91 b101 b100_e0 k100_ke0 b102_e0 k102_ke0 (adF (adF (fun _ => 0) 0 q1) 36 q2) (adF (adF (fun _ => 0) 0 q3) 36 q4) T110.heap n0  f110_30 f110_31 f110_33 f110_34 f110_32 p110_0 g_b100_e0 ne_b91_b100_e0 (Ne.symm ne_b100_e0_b101) (Ne.symm ne_b100_e0_b102_e0)   ) (by decide) (by decide) rfl f110_30 (by decide) (by decide) (g := (mkF m 56 (Sh38 q1 q2 q3 q4 b91 b101) [(.ref b101), (.ref b91)])) rfl (by rw [hml]; rfl) (argsL := [(.ref b101)]) (rest := []) (lenOf pd_28Lcom2fexample2fnearterm2fnearterm2fembedding2fExactSums3b29V rfl) rfl (Nat.le_of_eq rfl) (B at_56)
 obtain ⟨rfl, N111q, K111, p111_0⟩ := hQ111
 have N111 := Fr.app N110 N111q
 have f111_35 := Nat.le_trans f110_29 K111.1
 have f111_36 := f110_30.keep K111
 have f111_37 := f110_31.keep K111 (ninS ne_b91_b100_e0 nin0)
 have f111_38 := f110_33.keep K111
 have f111_39 := f110_34.keep K111 (ninS (Ne.symm ne_b100_e0_b101) nin0)
 have f111_40 := p110_0.keep K111 (ninS (Ne.symm ne_b100_e0_b102_e0) nin0)
 refine GoW.sg (mkF m 59 (Sh38 q1 q2 q3 q4 b91 b101) []) (fun t k => st111 t k) ?_
 refine GoW.sg (mkF m 61 (Sh38 q1 q2 q3 q4 b91 b101) [(.ref b91)]) (fun t k => XS.aload X111.here hx rfl (B at_59) rfl rfl k) ?_
 obtain ⟨_, T112, L112, X112, hQ112, st112⟩ := own_virt X111 hx hZ (y := Y11) hown (ww hw 49 rfl) (ww hw 50 rfl) (ww hw 52 rfl) (ww hw 51 rfl) (ww hw 53 rfl) (ww hw 2 rfl) (by decide) 0 (a := b91) (rm11 l Z a0 hw b91 b100_e0 k100_ke0 (sumF (adF (adF (fun _ => 0) 0 q1) 36 q2) (adF (adF (fun _ => 0) 0 q3) 36 q4)) ((Int32.toInt64 q1) + (Int32.toInt64 q3)) ((Int32.toInt64 q2) + (Int32.toInt64 q4)) T111.heap n0 f111_35 f111_36 f111_37 p111_0     (own_s1 ..) (own_s2 ..)) (by decide) (by decide) rfl f111_36 (by decide) (by decide) (g := (mkF m 61 (Sh38 q1 q2 q3 q4 b91 b101) [(.ref b91)])) rfl (by rw [hml]; rfl) (argsL := []) (rest := []) (lenOf pd_28295bD rfl) rfl (Nat.le_of_eq rfl) (B at_61)
 obtain ⟨b112_e0, k112_ke0, rfl, N112q, K112, p112_0, hz_b112_e0⟩ := hQ112
 have N112 := Fr.app N111 N112q
 have f112_41 := Nat.le_trans f111_35 K112.1
 have f112_45 := f111_38.keep K112
 have f112_46 := f111_39.keep K112 nin0
 have f112_47 := f111_40.keep K112 nin0
 refine GoW.sg (mkF m 64 (Sh38 q1 q2 q3 q4 b91 b101) [(.ref b112_e0)]) (fun t k => st112 t k) ?_
 refine GoW.sg (mkF m 68 (Sh39 q1 q2 q3 q4 b91 b101 b112_e0) [(.ref b101)]) (fun t k => XS.astore X112.here hx rfl (B at_64) rfl rfl (l' := (Sh39 q1 q2 q3 q4 b91 b101 b112_e0)) rfl (XS.aload X112.here hx rfl (B at_66) rfl rfl k)) ?_
 obtain ⟨_, T113, L113, X113, hQ113, st113⟩ := own_virt X112 hx hZ (y := Y11) hown (ww hw 49 rfl) (ww hw 50 rfl) (ww hw 52 rfl) (ww hw 51 rfl) (ww hw 53 rfl) (ww hw 2 rfl) (by decide) 0 (a := b101) (rm11 l Z a0 hw b101 b102_e0 k102_ke0 (adF (adF (fun _ => 0) 0 q3) 36 q4) (Int32.toInt64 q3) (Int32.toInt64 q4) T112.heap n0 f112_41 f112_45 f112_46 f112_47     (own_s3 ..) (own_s4 ..)) (by decide) (by decide) rfl f112_45 (by decide) (by decide) (g := (mkF m 68 (Sh39 q1 q2 q3 q4 b91 b101 b112_e0) [(.ref b101)])) rfl (by rw [hml]; rfl) (argsL := []) (rest := []) (lenOf pd_28295bD rfl) rfl (Nat.le_of_eq rfl) (B at_68)
 obtain ⟨b113_e0, k113_ke0, rfl, N113q, K113, p113_0, hz_b113_e0⟩ := hQ113
 have N113 := Fr.app N112 N113q
 have f113_55 := p112_0.keep K113 nin0
 refine GoW.sg (mkF m 71 (Sh39 q1 q2 q3 q4 b91 b101 b112_e0) [(.ref b113_e0)]) (fun t k => st113 t k) ?_
 refine GoW.sg (mkF m 75 (Sh40 q1 q2 q3 q4 b91 b101 b112_e0 b113_e0) [(.ref b112_e0)]) (fun t k => XS.astore X113.here hx rfl (B at_71) rfl rfl (l' := (Sh40 q1 q2 q3 q4 b91 b101 b112_e0 b113_e0)) rfl (XS.aload X113.here hx rfl (B at_73) rfl rfl k)) ?_
 obtain ⟨cl114, Ar114, q114, Sz114, Nn114, Hh114, Gg114⟩ := id f113_55
 have st114 := X113.arraylength hx (hq_ rfl Ar114.1) (State.isArrayOf_alike hZ.alike Ar114.2.1) (g := (mkF m 75 (Sh40 q1 q2 q3 q4 b91 b101 b112_e0 b113_e0) [(.ref b112_e0)])) rfl rfl (B at_75)
 rw [len_of Sz114 Nn114] at st114
 refine GoW.sg (mkF m 76 (Sh40 q1 q2 q3 q4 b91 b101 b112_e0 b113_e0) [(.int 2)]) (fun t k => st114 t k) ?_
 refine GoW.sg (mkF m 82 (Sh40 q1 q2 q3 q4 b91 b101 b112_e0 b113_e0) [(.ref b113_e0)]) (fun t k => XS.iconst X113.here hx rfl (B at_76) (XS.icmpNo X113.here hx rfl (B at_77) rfl (by decide) (XS.aload X113.here hx rfl (B at_80) rfl rfl k))) ?_
 obtain ⟨cl115, Ar115, q115, Sz115, Nn115, Hh115, Gg115⟩ := id p113_0
 have st115 := X113.arraylength hx (hq_ rfl Ar115.1) (State.isArrayOf_alike hZ.alike Ar115.2.1) (g := (mkF m 82 (Sh40 q1 q2 q3 q4 b91 b101 b112_e0 b113_e0) [(.ref b113_e0)])) rfl rfl (B at_82)
 rw [len_of Sz115 Nn115] at st115
 refine GoW.sg (mkF m 83 (Sh40 q1 q2 q3 q4 b91 b101 b112_e0 b113_e0) [(.int 2)]) (fun t k => st115 t k) ?_
 refine GoW.sg (mkF m 94 (Sh40 q1 q2 q3 q4 b91 b101 b112_e0 b113_e0) [(.long ((Int32.toInt64 q1) + (Int32.toInt64 q3)))]) (fun t k => XS.iconst X113.here hx rfl (B at_83) (XS.icmpYes X113.here hx rfl (pc0 := 84) (pc' := 89) rfl (B at_84) rfl (by decide) (by decide) (by decide) (XS.iloadN X113.here hx rfl (B at_89) rfl (XS.i2l X113.here hx rfl (B at_90) rfl (XS.iloadN X113.here hx rfl (B at_91) rfl (XS.i2l X113.here hx rfl (B at_92) rfl (XS.ladd X113.here hx rfl (B at_93) rfl k))))))) ?_
 obtain ⟨d116, hd116⟩ : ∃ d : UInt64, d = FP.l2d ((Int32.toInt64 q1) + (Int32.toInt64 q3)) := ⟨_, rfl⟩
 refine GoW.sg (mkF m 102 (Sh41 q1 q2 q3 q4 b91 b101 b112_e0 b113_e0 d116) [(.long ((Int32.toInt64 q2) + (Int32.toInt64 q4)))]) (fun t k => XS.l2dS X113.here hx rfl (B at_94) rfl (v := d116) hd116.symm (XS.dstore X113.here hx rfl (B at_95) rfl (l' := (Sh41 q1 q2 q3 q4 b91 b101 b112_e0 b113_e0 d116)) rfl (XS.iloadN X113.here hx rfl (B at_97) rfl (XS.i2l X113.here hx rfl (B at_98) rfl (XS.iloadN X113.here hx rfl (B at_99) rfl (XS.i2l X113.here hx rfl (B at_100) rfl (XS.ladd X113.here hx rfl (B at_101) rfl k))))))) ?_
 obtain ⟨d117, hd117⟩ : ∃ d : UInt64, d = FP.l2d ((Int32.toInt64 q2) + (Int32.toInt64 q4)) := ⟨_, rfl⟩
 refine GoW.sg (mkF m 108 (Sh42 q1 q2 q3 q4 b91 b101 b112_e0 b113_e0 d116 d117) [(.int 0), (.ref b112_e0)]) (fun t k => XS.l2dS X113.here hx rfl (B at_102) rfl (v := d117) hd117.symm (XS.dstore X113.here hx rfl (B at_103) rfl (l' := (Sh42 q1 q2 q3 q4 b91 b101 b112_e0 b113_e0 d116 d117)) rfl (XS.aload X113.here hx rfl (B at_105) rfl rfl (XS.iconst X113.here hx rfl (B at_107) k)))) ?_
 obtain ⟨cl118, Ar118, q118, Sz118, Nn118, Hh118, Gg118⟩ := id f113_55
 have hin118 : ¬ ((0 : Int32) < 0 ∨ cl118.slots.size ≤ ((0 : Int32)).toNatClampNeg) := inb_of Sz118 ⟨by decide, by decide⟩
 refine GoW.sg (mkF m 109 (Sh42 q1 q2 q3 q4 b91 b101 b112_e0 b113_e0 d116 d117) [(.double (FP.l2d ((Int32.toInt64 q1) + (Int32.toInt64 q3))))]) (fun t k => X113.daload hx (j := (0 : Int32)) (v := (.double (FP.l2d ((Int32.toInt64 q1) + (Int32.toInt64 q3))))) (hq_ rfl Ar118.1) (State.isArrayOf_alike hZ.alike Ar118.2.1) Ar118.2.2 hin118 (Hh118.at hin118 rfl) (g := (mkF m 108 (Sh42 q1 q2 q3 q4 b91 b101 b112_e0 b113_e0 d116 d117) [(.int 0), (.ref b112_e0)])) rfl rfl (B at_108) t k) ?_
 refine GoW.sg (mkF m 118 (Sh42 q1 q2 q3 q4 b91 b101 b112_e0 b113_e0 d116 d117) [(.int 1), (.ref b112_e0)]) (fun t k => XS.dload X113.here hx rfl (B at_109) rfl (XS.dcmpS X113.here hx rfl (B at_111) rfl (v := (0 : Int32)) (by rw [hd116]; exact own_dcx (own_b54 _ _)) (XS.ifNo X113.here hx rfl (B at_112) rfl (by decide) (XS.aload X113.here hx rfl (B at_115) rfl rfl (XS.iconst X113.here hx rfl (B at_117) k))))) ?_
 obtain ⟨cl119, Ar119, q119, Sz119, Nn119, Hh119, Gg119⟩ := id f113_55
 have hin119 : ¬ ((1 : Int32) < 0 ∨ cl119.slots.size ≤ ((1 : Int32)).toNatClampNeg) := inb_of Sz119 ⟨by decide, by decide⟩
 refine GoW.sg (mkF m 119 (Sh42 q1 q2 q3 q4 b91 b101 b112_e0 b113_e0 d116 d117) [(.double (FP.l2d ((Int32.toInt64 q2) + (Int32.toInt64 q4))))]) (fun t k => X113.daload hx (j := (1 : Int32)) (v := (.double (FP.l2d ((Int32.toInt64 q2) + (Int32.toInt64 q4))))) (hq_ rfl Ar119.1) (State.isArrayOf_alike hZ.alike Ar119.2.1) Ar119.2.2 hin119 (Hh119.at hin119 rfl) (g := (mkF m 118 (Sh42 q1 q2 q3 q4 b91 b101 b112_e0 b113_e0 d116 d117) [(.int 1), (.ref b112_e0)])) rfl rfl (B at_118) t k) ?_
 refine GoW.sg (mkF m 128 (Sh42 q1 q2 q3 q4 b91 b101 b112_e0 b113_e0 d116 d117) [(.int 0), (.ref b113_e0)]) (fun t k => XS.dload X113.here hx rfl (B at_119) rfl (XS.dcmpS X113.here hx rfl (B at_121) rfl (v := (0 : Int32)) (by rw [hd117]; exact own_dcx (own_b54 _ _)) (XS.ifNo X113.here hx rfl (B at_122) rfl (by decide) (XS.aload X113.here hx rfl (B at_125) rfl rfl (XS.iconst X113.here hx rfl (B at_127) k))))) ?_
 obtain ⟨cl120, Ar120, q120, Sz120, Nn120, Hh120, Gg120⟩ := id p113_0
 have hin120 : ¬ ((0 : Int32) < 0 ∨ cl120.slots.size ≤ ((0 : Int32)).toNatClampNeg) := inb_of Sz120 ⟨by decide, by decide⟩
 refine GoW.sg (mkF m 129 (Sh42 q1 q2 q3 q4 b91 b101 b112_e0 b113_e0 d116 d117) [(.double (FP.l2d (Int32.toInt64 q3)))]) (fun t k => X113.daload hx (j := (0 : Int32)) (v := (.double (FP.l2d (Int32.toInt64 q3)))) (hq_ rfl Ar120.1) (State.isArrayOf_alike hZ.alike Ar120.2.1) Ar120.2.2 hin120 (Hh120.at hin120 rfl) (g := (mkF m 128 (Sh42 q1 q2 q3 q4 b91 b101 b112_e0 b113_e0 d116 d117) [(.int 0), (.ref b113_e0)])) rfl rfl (B at_128) t k) ?_
 refine GoW.sg (mkF m 130 (Sh42 q1 q2 q3 q4 b91 b101 b112_e0 b113_e0 d116 d117) [(.int q3), (.double (FP.l2d (Int32.toInt64 q3)))]) (fun t k => XS.iloadN X113.here hx rfl (B at_129) rfl k) ?_
 obtain ⟨d121, hd121⟩ : ∃ d : UInt64, d = FP.l2d q3.toInt64 := ⟨_, rfl⟩
 refine GoW.sg (mkF m 138 (Sh42 q1 q2 q3 q4 b91 b101 b112_e0 b113_e0 d116 d117) [(.int 1), (.ref b113_e0)]) (fun t k => XS.i2dS X113.here hx rfl (B at_130) rfl (v := d121) ((i2d_w _).trans hd121.symm) (XS.dcmpS X113.here hx rfl (B at_131) rfl (v := (0 : Int32)) (by rw [hd121]; exact own_dcx (own_b53 _)) (XS.ifNo X113.here hx rfl (B at_132) rfl (by decide) (XS.aload X113.here hx rfl (B at_135) rfl rfl (XS.iconst X113.here hx rfl (B at_137) k))))) ?_
 obtain ⟨cl122, Ar122, q122, Sz122, Nn122, Hh122, Gg122⟩ := id p113_0
 have hin122 : ¬ ((1 : Int32) < 0 ∨ cl122.slots.size ≤ ((1 : Int32)).toNatClampNeg) := inb_of Sz122 ⟨by decide, by decide⟩
 refine GoW.sg (mkF m 139 (Sh42 q1 q2 q3 q4 b91 b101 b112_e0 b113_e0 d116 d117) [(.double (FP.l2d (Int32.toInt64 q4)))]) (fun t k => X113.daload hx (j := (1 : Int32)) (v := (.double (FP.l2d (Int32.toInt64 q4)))) (hq_ rfl Ar122.1) (State.isArrayOf_alike hZ.alike Ar122.2.1) Ar122.2.2 hin122 (Hh122.at hin122 rfl) (g := (mkF m 138 (Sh42 q1 q2 q3 q4 b91 b101 b112_e0 b113_e0 d116 d117) [(.int 1), (.ref b113_e0)])) rfl rfl (B at_138) t k) ?_
 refine GoW.sg (mkF m 140 (Sh42 q1 q2 q3 q4 b91 b101 b112_e0 b113_e0 d116 d117) [(.int q4), (.double (FP.l2d (Int32.toInt64 q4)))]) (fun t k => XS.iloadN X113.here hx rfl (B at_139) rfl k) ?_
 obtain ⟨d123, hd123⟩ : ∃ d : UInt64, d = FP.l2d q4.toInt64 := ⟨_, rfl⟩
 refine GoW.sg (mkF m 150 (Sh42 q1 q2 q3 q4 b91 b101 b112_e0 b113_e0 d116 d117) [(.int 1)]) (fun t k => XS.i2dS X113.here hx rfl (B at_140) rfl (v := d123) ((i2d_w _).trans hd123.symm) (XS.dcmpS X113.here hx rfl (B at_141) rfl (v := (0 : Int32)) (by rw [hd123]; exact own_dcx (own_b53 _)) (XS.ifNo X113.here hx rfl (B at_142) rfl (by decide) (XS.iconst X113.here hx rfl (B at_145) (XS.goto X113.here hx rfl (pc0 := 146) (pc' := 150) rfl (B at_146) (by decide) (by decide) k))))) ?_
 refine GoW.retN X113 hx (t := .boolean) Bd.returns (by simp) (B at_150) Bd.notSynchronized ?_ (by decide) (by decide)
 exact ⟨rfl, N113⟩

set_option maxRecDepth 65536 in
set_option maxHeartbeats 40000000 in
theorem comes_1 {Post : Tables → Env → Array Value → State → Outcome → State → Prop} (hpost : ∀ tb e args s v u, (limb_1_1.after args s (.returned v) u = true ∧ limb_1_2.after args s (.returned v) u = true ∧ True) → FrameEnd s (.returned v) u (Jvm.fieldLocs frame_1_writes args s ++ Jvm.arrayLocs frame_1_arrays args s ++ Jvm.staticLocs frame_1_statics s) 24 512 → Post tb e args s (.returned v) u) :
    ArmFor flags0 classFile x code maxLocals ret World_1 tables_1 room_1 Calls_1 rest_1 Pre_1 Post := by
  intro l hfl _ _ p e ha hc hk s m args below hf hA hF happ hP
  obtain ⟨hcalls, hrest, hpre⟩ := hP
  obtain ⟨-, -, -, hnamed, -, -, -, hat⟩ := (Spec.applies_iff hf).mp happ
  obtain ⟨hg, hn⟩ := and_e (Cond.before_iff.mp (show (Jvm.Cond.and given_1 narrow_1).before args s = true from hpre))
  obtain ⟨ga0, gb0⟩ := and_e hg
  obtain ⟨ga1, gb1⟩ := and_e gb0
  obtain ⟨ga2, gb2⟩ := and_e gb1
  obtain ⟨ga3, gb3⟩ := and_e gb2
  obtain ⟨w0, w1, w2, w3, rfl⟩ : ∃ w0 w1 w2 w3 : Value, args = #[w0, w1, w2, w3] := by
    have hs : args.size = 4 := by simpa [Cond.value, given_1] using ga0
    obtain ⟨L⟩ := args
    match L, hs with
    | [w0, w1, w2, w3], _ => exact ⟨w0, w1, w2, w3, rfl⟩
  have hw := fun d (hd : d ∈ tables_1) => atoms_spec (ws := Jvm.Cond.code x code maxLocals ret :: tables_1) hat d (List.mem_cons_of_mem _ hd)
  have hfit : Fit s := fun {y c} hc i hi => by
    obtain ⟨ha, rfl⟩ := Array.getElem?_eq_some_iff.mp hc
    have q := List.all_eq_true.mp ((Array.all_eq_true_iff_forall_mem.mp hF) _ (Array.getElem_mem ha)) i (List.mem_range.mpr hi)
    simpa [Array.getElem?_eq_getElem hi] using q
  obtain ⟨i0, ei0⟩ := is_v ga1
  obtain rfl : w0 = (.int i0) := Option.some.inj ei0
  obtain ⟨i1, ei1⟩ := is_v ga2
  obtain rfl : w1 = (.int i1) := Option.some.inj ei1
  obtain ⟨i2, ei2⟩ := is_v ga3
  obtain rfl : w2 = (.int i2) := Option.some.inj ei2
  obtain ⟨i3, ei3⟩ := is_v gb3
  obtain rfl : w3 = (.int i3) := Option.some.inj ei3
  obtain ⟨n, o, h1, h2, h3, v, L, rfl, ⟨hv, N⟩, hq⟩ := rm0 l s _ hw tables_1 i0 i1 i2 i3  s.heap s.heap.size (Nat.le_refl _)  p e ha hc hk s m _ below hf ((Spec.applies_iff_loose hf).mp happ).1 ⟨rfl, State.Warmed39.refl s, rfl⟩ trivial
  subst hv
  refine ⟨n, _, h1, h2, h3, hpost _ _ _ _ _ _ ⟨Cond.after_iff.mpr rfl, Cond.after_iff.mpr (eq_i res_at (Term.int_eval (1)) rfl), trivial⟩ ⟨hq.1, hq.2.1, (hq.2.2.sift fun y hy => Or.inr (N y hy)).mono (by decide) (by decide)⟩⟩
theorem main_1_1 : Claimed_1_1 := comes_1 fun _ _ _ _ _ _ h hF => ⟨h.1, hF⟩
theorem main_1_2 : Claimed_1_2 := comes_1 fun _ _ _ _ _ _ h hF => ⟨h.2.1, hF⟩
end Jvm.Pilot.@@N@@
namespace Jvm.Pilot.@@N@@
open Jvm Jvm.ClassFile Sem Op Lib Jvm.Free Jvm.Stand Jvm.Pilot.@@N@@.Jvm.D
/-! MADE BY PROGRAM (witnessworld.py) out of the Statement's table words and the real class files: 21 classes; the members and pool entries that the words name. The judged class is class 1, her method 1. -/
namespace start1
open Jvm.ClassFile
def u (s : String) : CpInfo := .utf8 (stringToUtf16 s)
/-- a pool by its gaps: so many unusable entries, then the entry; so many at the end -/
def gap : Nat → List CpInfo → List CpInfo
  | 0, r => r
  | n + 1, r => .unusable :: gap n r
def poolList (es : List (Nat × CpInfo)) (last : Nat) : List CpInfo := es.foldr (fun e r => gap e.1 (e.2 :: r)) (gap last [])
def pool (es : List (Nat × CpInfo)) (last : Nat) : Array CpInfo := ⟨poolList es last⟩
def fileOf (pool : Array CpInfo) (this : Nat) (attrs : Array Attribute := #[]) (ms : Array MethodInfo := #[]) (fl : Nat := 33) (sup : Nat := 0) (ifs : Array Nat := #[]) (fds : Array FieldInfo := #[]) : ClassFile where
  minorVersion := 0
  majorVersion := 65
  constantPool := pool
  accessFlags := fl
  thisClass := this
  superClass := sup
  interfaces := ifs
  fields := fds
  methods := ms
  attributes := attrs
def plain (name : String) (sup : Option ClassId) : Class where
  name := name
  kind := .ordinary
  loader := none
  accessFlags := 33
  super := sup
  interfaces := #[]
  cf := none
  fields := #[]
  methods := #[]
  instanceTypes := #[]
  staticTypes := #[]
  resolved := #[]
  callSites := []
  init := .initialized
  statics := none
  mirror := none

def pool0 : Array CpInfo := pool [(5, u "<init>"), (0, u "()V"), (1, .class_ 10), (1, u "java/lang/Object")] 113

def k0c0 : Code := { maxStack := 0, maxLocals := 1, code := object_method_1_code, exceptionTable := #[], attributes := #[] }
def k0m0 : Method := { name := "<init>", desc := "()V", sig := { parameters := [], returnType := none }, accessFlags := 1, code := some k0c0 }
/-- java/lang/Object -/
def k0 : Class := { plain "java/lang/Object" none with
  accessFlags := 33
  interfaces := #[]
  cf := some (fileOf pool0 8 #[] #[{ accessFlags := 1, nameIndex := 5, descriptorIndex := 6, attributes := #[] }] 33 0 #[] #[])
  fields := #[]
  methods := #[k0m0]
  instanceTypes := #[]
  staticTypes := #[]
  resolved := Array.replicate 124 none
  statics := none }

def pool1 : Array CpInfo := pool [(2, .class_ 4), (1, u "java/lang/Object"), (0, u "<init>"), (0, u "()V"), (0, .class_ 8), (0, u "com/example/nearterm/nearterm/embedding/ExactSums"), (0, .methodref 7 10), (0, .nameAndType 5 11), (0, u "(I)V"), (0, .methodref 7 13), (0, .nameAndType 14 15), (0, u "add"), (0, u "(ID)V"), (0, .methodref 7 17), (0, .nameAndType 18 19), (0, u "addAll"), (0, u "(Lcom/example/nearterm/nearterm/embedding/ExactSums;)V"), (0, .methodref 7 21), (0, .nameAndType 22 23), (0, u "rounded"), (0, u "()[D"), (0, .class_ 25), (0, u "com/example/nearterm/nearterm/embedding/ExactSumsAddAllPinLaw"), (2, u "law"), (0, u "(IIII)Z")] 5

def k1m0 : Method := { name := "<init>", desc := "()V", sig := { parameters := [], returnType := none }, accessFlags := 2, code := none }
def k1c1 : Code := { maxStack := 4, maxLocals := 12, code := code, exceptionTable := #[], attributes := #[] }
def k1m1 : Method := { name := "law", desc := "(IIII)Z", sig := { parameters := [.int, .int, .int, .int], returnType := some .boolean }, accessFlags := 9, code := some k1c1 }
/-- com/example/nearterm/nearterm/embedding/ExactSumsAddAllPinLaw -/
def k1 : Class := { plain "com/example/nearterm/nearterm/embedding/ExactSumsAddAllPinLaw" (some 0) with
  accessFlags := 49
  interfaces := #[]
  cf := some (fileOf pool1 24 #[] #[{ accessFlags := 2, nameIndex := 5, descriptorIndex := 6, attributes := #[] }, { accessFlags := 9, nameIndex := 28, descriptorIndex := 29, attributes := #[] }] 49 2 #[] #[])
  fields := #[]
  methods := #[k1m0, k1m1]
  instanceTypes := #[]
  staticTypes := #[]
  resolved := Array.replicate 35 none
  statics := none }

def pool2 : Array CpInfo := pool [(1, .class_ 2), (0, u "com/example/nearterm/nearterm/embedding/ExactSums"), (0, .methodref 4 5), (0, .class_ 6), (0, .nameAndType 7 8), (0, u "java/lang/Object"), (0, u "<init>"), (0, u "()V"), (0, .methodref 10 11), (0, .class_ 12), (0, .nameAndType 13 14), (0, u "java/lang/Math"), (0, u "multiplyExact"), (0, u "(II)I"), (0, .fieldref 1 16), (0, .nameAndType 17 18), (0, u "limbs"), (0, u "[J"), (8, .methodref 28 29), (0, .class_ 30), (0, .nameAndType 31 32), (0, u "java/lang/Double"), (0, u "doubleToRawLongBits"), (0, u "(D)J"), (0, .methodref 1 34), (0, .nameAndType 35 36), (0, u "exponent"), (0, u "(J)I"), (4, .methodref 1 42), (0, .nameAndType 43 44), (0, u "position"), (0, u "(I)I"), (0, .methodref 1 46), (0, .nameAndType 47 48), (0, u "mantissa"), (0, u "(JI)J"), (0, .methodref 1 50), (0, .nameAndType 51 52), (0, u "add"), (0, u "(IIJJ)V"), (11, u "byExponent"), (3, .methodref 10 69), (0, .nameAndType 70 14), (0, u "max"), (30, .long 4503599627370495), (1, .long 4503599627370496), (4, .long 4294967295), (1, .methodref 1 111), (0, .nameAndType 112 113), (0, u "rounded"), (0, u "(I[J)D"), (0, .long 18446744073709551615), (1, .methodref 117 118), (0, .class_ 119), (0, .nameAndType 120 36), (0, u "java/lang/Long"), (0, u "numberOfLeadingZeros"), (0, .methodref 1 122), (0, .nameAndType 123 124), (0, u "nearest"), (0, u "([JI)J"), (0, .methodref 28 126), (0, .nameAndType 127 128), (0, u "longBitsToDouble"), (0, u "(J)D"), (0, .methodref 1 130), (0, .nameAndType 131 124), (0, u "bitsFrom"), (0, .methodref 1 133), (0, .nameAndType 134 135), (0, u "bit"), (0, u "([JI)Z"), (3, .long 9007199254740992), (1, .long 9007199254740991), (1, u "LIMBS"), (0, u "I"), (2, u "LIMB"), (0, u "J"), (0, u "MOST_EXPONENT"), (1, u "MANTISSA_BITS"), (1, u "FRACTION"), (0, u "EXPONENTS"), (1, u "MOST_AT_ONCE"), (1, u "(I)V"), (4, u "(ID)V"), (2, u "addAll"), (0, u "(Lcom/example/nearterm/nearterm/embedding/ExactSums;)V"), (1, u "()[D")] 34

def k2c0 : Code := { maxStack := 3, maxLocals := 2, code := prog_7_method_1_code, exceptionTable := #[], attributes := #[] }
def k2m0 : Method := { name := "<init>", desc := "(I)V", sig := { parameters := [.int], returnType := none }, accessFlags := 0, code := some k2c0 }
def k2c1 : Code := { maxStack := 8, maxLocals := 7, code := prog_7_method_4_code, exceptionTable := #[], attributes := #[] }
def k2m1 : Method := { name := "add", desc := "(ID)V", sig := { parameters := [.int, .double], returnType := none }, accessFlags := 0, code := some k2c1 }
def k2c2 : Code := { maxStack := 3, maxLocals := 2, code := prog_7_method_6_code, exceptionTable := #[], attributes := #[] }
def k2m2 : Method := { name := "exponent", desc := "(J)I", sig := { parameters := [.long], returnType := some .int }, accessFlags := 10, code := some k2c2 }
def k2c3 : Code := { maxStack := 6, maxLocals := 3, code := prog_7_method_7_code, exceptionTable := #[], attributes := #[] }
def k2m3 : Method := { name := "mantissa", desc := "(JI)J", sig := { parameters := [.long, .int], returnType := some .long }, accessFlags := 10, code := some k2c3 }
def k2c4 : Code := { maxStack := 2, maxLocals := 1, code := prog_7_method_8_code, exceptionTable := #[], attributes := #[] }
def k2m4 : Method := { name := "position", desc := "(I)I", sig := { parameters := [.int], returnType := some .int }, accessFlags := 10, code := some k2c4 }
def k2c5 : Code := { maxStack := 8, maxLocals := 13, code := prog_7_method_10_code, exceptionTable := #[], attributes := #[] }
def k2m5 : Method := { name := "add", desc := "(IIJJ)V", sig := { parameters := [.int, .int, .long, .long], returnType := none }, accessFlags := 2, code := some k2c5 }
def k2c6 : Code := { maxStack := 6, maxLocals := 3, code := prog_7_method_11_code, exceptionTable := #[], attributes := #[] }
def k2m6 : Method := { name := "addAll", desc := "(Lcom/example/nearterm/nearterm/embedding/ExactSums;)V", sig := { parameters := [(.object "com/example/nearterm/nearterm/embedding/ExactSums")], returnType := none }, accessFlags := 0, code := some k2c6 }
def k2c7 : Code := { maxStack := 5, maxLocals := 4, code := prog_7_method_13_code, exceptionTable := #[], attributes := #[] }
def k2m7 : Method := { name := "rounded", desc := "()[D", sig := { parameters := [], returnType := some (.array .double) }, accessFlags := 0, code := some k2c7 }
def k2c8 : Code := { maxStack := 6, maxLocals := 11, code := prog_7_method_14_code, exceptionTable := #[], attributes := #[] }
def k2m8 : Method := { name := "rounded", desc := "(I[J)D", sig := { parameters := [.int, (.array .long)], returnType := some .double }, accessFlags := 2, code := some k2c8 }
def k2c9 : Code := { maxStack := 5, maxLocals := 5, code := prog_7_method_15_code, exceptionTable := #[], attributes := #[] }
def k2m9 : Method := { name := "nearest", desc := "([JI)J", sig := { parameters := [(.array .long), .int], returnType := some .long }, accessFlags := 10, code := some k2c9 }
def k2c10 : Code := { maxStack := 5, maxLocals := 7, code := prog_7_method_16_code, exceptionTable := #[], attributes := #[] }
def k2m10 : Method := { name := "bitsFrom", desc := "([JI)J", sig := { parameters := [(.array .long), .int], returnType := some .long }, accessFlags := 10, code := some k2c10 }
def k2c11 : Code := { maxStack := 4, maxLocals := 2, code := prog_7_method_17_code, exceptionTable := #[], attributes := #[] }
def k2m11 : Method := { name := "bit", desc := "([JI)Z", sig := { parameters := [(.array .long), .int], returnType := some .boolean }, accessFlags := 10, code := some k2c11 }
/-- com/example/nearterm/nearterm/embedding/ExactSums -/
def k2 : Class := { plain "com/example/nearterm/nearterm/embedding/ExactSums" (some 0) with
  accessFlags := 48
  interfaces := #[]
  cf := some (fileOf pool2 1 #[] #[{ accessFlags := 0, nameIndex := 7, descriptorIndex := 158, attributes := #[] }, { accessFlags := 0, nameIndex := 51, descriptorIndex := 163, attributes := #[] }, { accessFlags := 10, nameIndex := 35, descriptorIndex := 36, attributes := #[] }, { accessFlags := 10, nameIndex := 47, descriptorIndex := 48, attributes := #[] }, { accessFlags := 10, nameIndex := 43, descriptorIndex := 44, attributes := #[] }, { accessFlags := 2, nameIndex := 51, descriptorIndex := 52, attributes := #[] }, { accessFlags := 0, nameIndex := 166, descriptorIndex := 167, attributes := #[] }, { accessFlags := 0, nameIndex := 112, descriptorIndex := 169, attributes := #[] }, { accessFlags := 2, nameIndex := 112, descriptorIndex := 113, attributes := #[] }, { accessFlags := 10, nameIndex := 123, descriptorIndex := 124, attributes := #[] }, { accessFlags := 10, nameIndex := 131, descriptorIndex := 124, attributes := #[] }, { accessFlags := 10, nameIndex := 134, descriptorIndex := 135, attributes := #[] }] 48 4 #[] #[{ accessFlags := 26, nameIndex := 143, descriptorIndex := 144, attributes := #[] }, { accessFlags := 26, nameIndex := 147, descriptorIndex := 148, attributes := #[] }, { accessFlags := 26, nameIndex := 149, descriptorIndex := 144, attributes := #[] }, { accessFlags := 26, nameIndex := 151, descriptorIndex := 144, attributes := #[] }, { accessFlags := 26, nameIndex := 153, descriptorIndex := 148, attributes := #[] }, { accessFlags := 26, nameIndex := 154, descriptorIndex := 144, attributes := #[] }, { accessFlags := 24, nameIndex := 156, descriptorIndex := 144, attributes := #[] }, { accessFlags := 18, nameIndex := 17, descriptorIndex := 18, attributes := #[] }, { accessFlags := 2, nameIndex := 64, descriptorIndex := 18, attributes := #[] }])
  fields := #[{ name := "LIMBS", type := .int, accessFlags := 26, slot := 0, constantValue := 0 }, { name := "LIMB", type := .long, accessFlags := 26, slot := 1, constantValue := 0 }, { name := "MOST_EXPONENT", type := .int, accessFlags := 26, slot := 2, constantValue := 0 }, { name := "MANTISSA_BITS", type := .int, accessFlags := 26, slot := 3, constantValue := 0 }, { name := "FRACTION", type := .long, accessFlags := 26, slot := 4, constantValue := 0 }, { name := "EXPONENTS", type := .int, accessFlags := 26, slot := 5, constantValue := 0 }, { name := "MOST_AT_ONCE", type := .int, accessFlags := 24, slot := 6, constantValue := 0 }, { name := "limbs", type := (.array .long), accessFlags := 18, slot := 0, constantValue := 0 }, { name := "byExponent", type := (.array .long), accessFlags := 2, slot := 1, constantValue := 0 }]
  methods := #[k2m0, k2m1, k2m2, k2m3, k2m4, k2m5, k2m6, k2m7, k2m8, k2m9, k2m10, k2m11]
  instanceTypes := #[(.array .long), (.array .long)]
  staticTypes := #[.int, .long, .int, .int, .long, .int, .int]
  resolved := Array.replicate 204 none
  statics := none }

def pool3 : Array CpInfo := pool [(1, .class_ 2), (0, u "java/lang/Math"), (1, .class_ 6), (1, u "java/lang/Object"), (0, u "<init>"), (0, u "()V"), (89, .class_ 100), (1, u "java/lang/Math$RandomNumberGeneratorHolder"), (19, u "multiplyExact"), (51, u "negativeZeroFloatBits"), (0, u "J"), (2, u "negativeZeroDoubleBits"), (21, u "max"), (46, u "$assertionsDisabled"), (0, u "Z"), (88, u "(II)I"), (2, u "twoToTheDoubleScaleDown"), (0, u "D"), (4, u "twoToTheDoubleScaleUp"), (9, u "E"), (3, u "PI"), (2, u "TAU"), (2, u "DEGREES_TO_RADIANS"), (0, u "RADIANS_TO_DEGREES")] 94

def k3m0 : Method := { name := "<init>", desc := "()V", sig := { parameters := [], returnType := none }, accessFlags := 2, code := none }
def k3c1 : Code := { maxStack := 4, maxLocals := 4, code := jdk_29_method_28_code, exceptionTable := #[], attributes := #[] }
def k3m1 : Method := { name := "multiplyExact", desc := "(II)I", sig := { parameters := [.int, .int], returnType := some .int }, accessFlags := 9, code := some k3c1 }
def k3c2 : Code := { maxStack := 2, maxLocals := 2, code := jdk_29_method_65_code, exceptionTable := #[], attributes := #[] }
def k3m2 : Method := { name := "max", desc := "(II)I", sig := { parameters := [.int, .int], returnType := some .int }, accessFlags := 9, code := some k3c2 }
/-- java/lang/Math -/
def k3 : Class := { plain "java/lang/Math" (some 0) with
  accessFlags := 49
  interfaces := #[]
  cf := some (fileOf pool3 1 #[.nestMembers #[98]] #[{ accessFlags := 2, nameIndex := 7, descriptorIndex := 8, attributes := #[] }, { accessFlags := 9, nameIndex := 120, descriptorIndex := 335, attributes := #[] }, { accessFlags := 9, nameIndex := 198, descriptorIndex := 335, attributes := #[] }] 49 4 #[] #[{ accessFlags := 25, nameIndex := 354, descriptorIndex := 339, attributes := #[] }, { accessFlags := 25, nameIndex := 358, descriptorIndex := 339, attributes := #[] }, { accessFlags := 25, nameIndex := 361, descriptorIndex := 339, attributes := #[] }, { accessFlags := 26, nameIndex := 364, descriptorIndex := 339, attributes := #[] }, { accessFlags := 26, nameIndex := 365, descriptorIndex := 339, attributes := #[] }, { accessFlags := 26, nameIndex := 172, descriptorIndex := 173, attributes := #[] }, { accessFlags := 26, nameIndex := 176, descriptorIndex := 173, attributes := #[] }, { accessFlags := 8, nameIndex := 344, descriptorIndex := 339, attributes := #[] }, { accessFlags := 8, nameIndex := 338, descriptorIndex := 339, attributes := #[] }, { accessFlags := 4120, nameIndex := 245, descriptorIndex := 246, attributes := #[] }])
  fields := #[{ name := "E", type := .double, accessFlags := 25, slot := 0, constantValue := 0 }, { name := "PI", type := .double, accessFlags := 25, slot := 1, constantValue := 0 }, { name := "TAU", type := .double, accessFlags := 25, slot := 2, constantValue := 0 }, { name := "DEGREES_TO_RADIANS", type := .double, accessFlags := 26, slot := 3, constantValue := 0 }, { name := "RADIANS_TO_DEGREES", type := .double, accessFlags := 26, slot := 4, constantValue := 0 }, { name := "negativeZeroFloatBits", type := .long, accessFlags := 26, slot := 5, constantValue := 0 }, { name := "negativeZeroDoubleBits", type := .long, accessFlags := 26, slot := 6, constantValue := 0 }, { name := "twoToTheDoubleScaleUp", type := .double, accessFlags := 8, slot := 7, constantValue := 0 }, { name := "twoToTheDoubleScaleDown", type := .double, accessFlags := 8, slot := 8, constantValue := 0 }, { name := "$assertionsDisabled", type := .boolean, accessFlags := 4120, slot := 9, constantValue := 0 }]
  methods := #[k3m0, k3m1, k3m2]
  instanceTypes := #[]
  staticTypes := #[.double, .double, .double, .double, .double, .long, .long, .double, .double, .boolean]
  resolved := Array.replicate 460 none
  statics := none }

def pool4 : Array CpInfo := pool [(1, .class_ 2), (0, u "java/io/Serializable"), (0, .class_ 4), (0, u "java/lang/Object")] 2

/-- java/io/Serializable -/
def k4 : Class := { plain "java/io/Serializable" (some 0) with
  accessFlags := 1537
  interfaces := #[]
  cf := some (fileOf pool4 1 #[] #[] 1537 3 #[] #[])
  fields := #[]
  methods := #[]
  instanceTypes := #[]
  staticTypes := #[]
  resolved := Array.replicate 7 none
  statics := none }

def pool5 : Array CpInfo := pool [(2, .class_ 4), (1, u "java/lang/Object"), (0, u "<init>"), (0, u "()V"), (1, .class_ 10), (1, u "java/lang/Number"), (2, .class_ 14), (0, u "java/io/Serializable"), (0, u "serialVersionUID"), (0, u "J")] 20

def k5m0 : Method := { name := "<init>", desc := "()V", sig := { parameters := [], returnType := none }, accessFlags := 1, code := none }
/-- java/lang/Number -/
def k5 : Class := { plain "java/lang/Number" (some 0) with
  accessFlags := 1057
  interfaces := #[4]
  cf := some (fileOf pool5 8 #[] #[{ accessFlags := 1, nameIndex := 5, descriptorIndex := 6, attributes := #[] }] 1057 2 #[13] #[{ accessFlags := 26, nameIndex := 15, descriptorIndex := 16, attributes := #[] }])
  fields := #[{ name := "serialVersionUID", type := .long, accessFlags := 26, slot := 0, constantValue := 0 }]
  methods := #[k5m0]
  instanceTypes := #[]
  staticTypes := #[.long]
  resolved := Array.replicate 37 none
  statics := none }

def pool6 : Array CpInfo := pool [(1, .class_ 2), (0, u "java/lang/Comparable"), (0, .class_ 4), (0, u "java/lang/Object")] 7

/-- java/lang/Comparable -/
def k6 : Class := { plain "java/lang/Comparable" (some 0) with
  accessFlags := 1537
  interfaces := #[]
  cf := some (fileOf pool6 1 #[] #[] 1537 3 #[] #[])
  fields := #[]
  methods := #[]
  instanceTypes := #[]
  staticTypes := #[]
  resolved := Array.replicate 12 none
  statics := none }

def pool7 : Array CpInfo := pool [(1, .class_ 2), (0, u "java/lang/constant/Constable"), (0, .class_ 4), (0, u "java/lang/Object")] 6

/-- java/lang/constant/Constable -/
def k7 : Class := { plain "java/lang/constant/Constable" (some 0) with
  accessFlags := 1537
  interfaces := #[]
  cf := some (fileOf pool7 1 #[] #[] 1537 3 #[] #[])
  fields := #[]
  methods := #[]
  instanceTypes := #[]
  staticTypes := #[]
  resolved := Array.replicate 11 none
  statics := none }

def pool8 : Array CpInfo := pool [(1, .class_ 2), (0, u "java/lang/constant/ConstantDesc"), (0, .class_ 4), (0, u "java/lang/Object")] 32

/-- java/lang/constant/ConstantDesc -/
def k8 : Class := { plain "java/lang/constant/ConstantDesc" (some 0) with
  accessFlags := 1537
  interfaces := #[]
  cf := some (fileOf pool8 1 #[] #[] 1537 3 #[] #[])
  fields := #[]
  methods := #[]
  instanceTypes := #[]
  staticTypes := #[]
  resolved := Array.replicate 37 none
  statics := none }

def pool9 : Array CpInfo := pool [(1, .class_ 2), (0, u "java/lang/Double"), (46, u "(D)J"), (64, .class_ 116), (1, u "java/lang/Number"), (3, u "value"), (0, u "D"), (14, u "doubleToRawLongBits"), (36, u "TYPE"), (0, u "Ljava/lang/Class;"), (0, .class_ 176), (0, u "java/lang/Comparable"), (0, .class_ 178), (0, u "java/lang/constant/Constable"), (0, .class_ 180), (0, u "java/lang/constant/ConstantDesc"), (0, u "POSITIVE_INFINITY"), (3, u "NEGATIVE_INFINITY"), (2, u "NaN"), (2, u "MAX_VALUE"), (0, u "MIN_NORMAL"), (0, u "MIN_VALUE"), (2, u "SIZE"), (0, u "I"), (1, u "PRECISION"), (1, u "MAX_EXPONENT"), (1, u "MIN_EXPONENT"), (1, u "BYTES"), (3, u "serialVersionUID"), (0, u "J"), (48, u "longBitsToDouble"), (0, u "(J)D")] 29

def k9m0 : Method := { name := "doubleToRawLongBits", desc := "(D)J", sig := { parameters := [.double], returnType := some .long }, accessFlags := 265, code := none }
def k9m1 : Method := { name := "longBitsToDouble", desc := "(J)D", sig := { parameters := [.long], returnType := some .double }, accessFlags := 265, code := none }
/-- java/lang/Double -/
def k9 : Class := { plain "java/lang/Double" (some 5) with
  accessFlags := 49
  interfaces := #[6, 7, 8]
  cf := some (fileOf pool9 1 #[] #[{ accessFlags := 265, nameIndex := 136, descriptorIndex := 49, attributes := #[] }, { accessFlags := 265, nameIndex := 259, descriptorIndex := 260, attributes := #[] }] 49 114 #[175, 177, 179] #[{ accessFlags := 25, nameIndex := 181, descriptorIndex := 121, attributes := #[] }, { accessFlags := 25, nameIndex := 185, descriptorIndex := 121, attributes := #[] }, { accessFlags := 25, nameIndex := 188, descriptorIndex := 121, attributes := #[] }, { accessFlags := 25, nameIndex := 191, descriptorIndex := 121, attributes := #[] }, { accessFlags := 25, nameIndex := 192, descriptorIndex := 121, attributes := #[] }, { accessFlags := 25, nameIndex := 193, descriptorIndex := 121, attributes := #[] }, { accessFlags := 25, nameIndex := 196, descriptorIndex := 197, attributes := #[] }, { accessFlags := 25, nameIndex := 199, descriptorIndex := 197, attributes := #[] }, { accessFlags := 25, nameIndex := 201, descriptorIndex := 197, attributes := #[] }, { accessFlags := 25, nameIndex := 203, descriptorIndex := 197, attributes := #[] }, { accessFlags := 25, nameIndex := 205, descriptorIndex := 197, attributes := #[] }, { accessFlags := 25, nameIndex := 173, descriptorIndex := 174, attributes := #[] }, { accessFlags := 18, nameIndex := 120, descriptorIndex := 121, attributes := #[] }, { accessFlags := 26, nameIndex := 209, descriptorIndex := 210, attributes := #[] }])
  fields := #[{ name := "POSITIVE_INFINITY", type := .double, accessFlags := 25, slot := 0, constantValue := 0 }, { name := "NEGATIVE_INFINITY", type := .double, accessFlags := 25, slot := 1, constantValue := 0 }, { name := "NaN", type := .double, accessFlags := 25, slot := 2, constantValue := 0 }, { name := "MAX_VALUE", type := .double, accessFlags := 25, slot := 3, constantValue := 0 }, { name := "MIN_NORMAL", type := .double, accessFlags := 25, slot := 4, constantValue := 0 }, { name := "MIN_VALUE", type := .double, accessFlags := 25, slot := 5, constantValue := 0 }, { name := "SIZE", type := .int, accessFlags := 25, slot := 6, constantValue := 0 }, { name := "PRECISION", type := .int, accessFlags := 25, slot := 7, constantValue := 0 }, { name := "MAX_EXPONENT", type := .int, accessFlags := 25, slot := 8, constantValue := 0 }, { name := "MIN_EXPONENT", type := .int, accessFlags := 25, slot := 9, constantValue := 0 }, { name := "BYTES", type := .int, accessFlags := 25, slot := 10, constantValue := 0 }, { name := "TYPE", type := (.object "java/lang/Class"), accessFlags := 25, slot := 11, constantValue := 0 }, { name := "value", type := .double, accessFlags := 18, slot := 0, constantValue := 0 }, { name := "serialVersionUID", type := .long, accessFlags := 26, slot := 12, constantValue := 0 }]
  methods := #[k9m0, k9m1]
  instanceTypes := #[.double]
  staticTypes := #[.double, .double, .double, .double, .double, .double, .int, .int, .int, .int, .int, (.object "java/lang/Class"), .long]
  resolved := Array.replicate 290 none
  statics := none }

def pool10 : Array CpInfo := pool [(1, .class_ 2), (0, u "java/lang/Long"), (15, .class_ 20), (1, u "java/lang/Integer"), (79, u "numberOfLeadingZeros"), (0, u "(J)I"), (133, .class_ 237), (1, u "java/lang/Long$LongCache"), (33, .class_ 272), (0, u "java/lang/Number"), (2, u "value"), (0, u "J"), (31, .methodref 18 309), (0, .nameAndType 100 310), (0, u "(I)I"), (50, u "TYPE"), (0, u "Ljava/lang/Class;"), (0, .class_ 364), (0, u "java/lang/Comparable"), (0, .class_ 366), (0, u "java/lang/constant/Constable"), (0, .class_ 368), (0, u "java/lang/constant/ConstantDesc"), (0, u "MIN_VALUE"), (1, u "MAX_VALUE"), (4, u "SIZE"), (0, u "I"), (1, u "BYTES"), (1, u "serialVersionUID")] 142

def k10c0 : Code := { maxStack := 3, maxLocals := 3, code := jdk_35_method_48_code, exceptionTable := #[], attributes := #[] }
def k10m0 : Method := { name := "numberOfLeadingZeros", desc := "(J)I", sig := { parameters := [.long], returnType := some .int }, accessFlags := 9, code := some k10c0 }
/-- java/lang/Long -/
def k10 : Class := { plain "java/lang/Long" (some 5) with
  accessFlags := 49
  interfaces := #[6, 7, 8]
  cf := some (fileOf pool10 1 #[.nestMembers #[235]] #[{ accessFlags := 9, nameIndex := 100, descriptorIndex := 101, attributes := #[] }] 49 271 #[363, 365, 367] #[{ accessFlags := 25, nameIndex := 369, descriptorIndex := 276, attributes := #[] }, { accessFlags := 25, nameIndex := 371, descriptorIndex := 276, attributes := #[] }, { accessFlags := 25, nameIndex := 361, descriptorIndex := 362, attributes := #[] }, { accessFlags := 18, nameIndex := 275, descriptorIndex := 276, attributes := #[] }, { accessFlags := 25, nameIndex := 376, descriptorIndex := 377, attributes := #[] }, { accessFlags := 25, nameIndex := 379, descriptorIndex := 377, attributes := #[] }, { accessFlags := 26, nameIndex := 381, descriptorIndex := 276, attributes := #[] }])
  fields := #[{ name := "MIN_VALUE", type := .long, accessFlags := 25, slot := 0, constantValue := 0 }, { name := "MAX_VALUE", type := .long, accessFlags := 25, slot := 1, constantValue := 0 }, { name := "TYPE", type := (.object "java/lang/Class"), accessFlags := 25, slot := 2, constantValue := 0 }, { name := "value", type := .long, accessFlags := 18, slot := 0, constantValue := 0 }, { name := "SIZE", type := .int, accessFlags := 25, slot := 3, constantValue := 0 }, { name := "BYTES", type := .int, accessFlags := 25, slot := 4, constantValue := 0 }, { name := "serialVersionUID", type := .long, accessFlags := 26, slot := 5, constantValue := 0 }]
  methods := #[k10m0]
  instanceTypes := #[.long]
  staticTypes := #[.long, .long, (.object "java/lang/Class"), .int, .int, .long]
  resolved := Array.replicate 524 none
  statics := none }

def pool11 : Array CpInfo := pool [(1, .class_ 2), (0, u "java/lang/Integer"), (16, u "digits"), (0, u "[C"), (32, u "numberOfLeadingZeros"), (0, u "(I)I"), (30, u "DigitOnes"), (0, u "[B"), (2, u "DigitTens"), (99, .class_ 190), (0, u "java/lang/Integer$IntegerCache"), (3, u "I"), (8, .class_ 204), (0, u "java/lang/Number"), (2, u "value"), (56, .integer 65536), (37, u "TYPE"), (0, u "Ljava/lang/Class;"), (0, .class_ 305), (0, u "java/lang/Comparable"), (0, .class_ 307), (0, u "java/lang/constant/Constable"), (0, .class_ 309), (0, u "java/lang/constant/ConstantDesc"), (0, u "MIN_VALUE"), (1, u "MAX_VALUE"), (3, u "SIZE"), (1, u "BYTES"), (1, u "serialVersionUID"), (0, u "J")] 131

def k11c0 : Code := { maxStack := 3, maxLocals := 2, code := jdk_33_method_47_code, exceptionTable := #[], attributes := #[] }
def k11m0 : Method := { name := "numberOfLeadingZeros", desc := "(I)I", sig := { parameters := [.int], returnType := some .int }, accessFlags := 9, code := some k11c0 }
/-- java/lang/Integer -/
def k11 : Class := { plain "java/lang/Integer" (some 5) with
  accessFlags := 49
  interfaces := #[6, 7, 8]
  cf := some (fileOf pool11 1 #[.nestMembers #[189]] #[{ accessFlags := 9, nameIndex := 53, descriptorIndex := 54, attributes := #[] }] 49 203 #[304, 306, 308] #[{ accessFlags := 25, nameIndex := 310, descriptorIndex := 194, attributes := #[] }, { accessFlags := 25, nameIndex := 312, descriptorIndex := 194, attributes := #[] }, { accessFlags := 25, nameIndex := 302, descriptorIndex := 303, attributes := #[] }, { accessFlags := 24, nameIndex := 19, descriptorIndex := 20, attributes := #[] }, { accessFlags := 24, nameIndex := 89, descriptorIndex := 86, attributes := #[] }, { accessFlags := 24, nameIndex := 85, descriptorIndex := 86, attributes := #[] }, { accessFlags := 18, nameIndex := 207, descriptorIndex := 194, attributes := #[] }, { accessFlags := 25, nameIndex := 316, descriptorIndex := 194, attributes := #[] }, { accessFlags := 25, nameIndex := 318, descriptorIndex := 194, attributes := #[] }, { accessFlags := 26, nameIndex := 320, descriptorIndex := 321, attributes := #[] }])
  fields := #[{ name := "MIN_VALUE", type := .int, accessFlags := 25, slot := 0, constantValue := 0 }, { name := "MAX_VALUE", type := .int, accessFlags := 25, slot := 1, constantValue := 0 }, { name := "TYPE", type := (.object "java/lang/Class"), accessFlags := 25, slot := 2, constantValue := 0 }, { name := "digits", type := (.array .char), accessFlags := 24, slot := 3, constantValue := 0 }, { name := "DigitTens", type := (.array .byte), accessFlags := 24, slot := 4, constantValue := 0 }, { name := "DigitOnes", type := (.array .byte), accessFlags := 24, slot := 5, constantValue := 0 }, { name := "value", type := .int, accessFlags := 18, slot := 0, constantValue := 0 }, { name := "SIZE", type := .int, accessFlags := 25, slot := 6, constantValue := 0 }, { name := "BYTES", type := .int, accessFlags := 25, slot := 7, constantValue := 0 }, { name := "serialVersionUID", type := .long, accessFlags := 26, slot := 8, constantValue := 0 }]
  methods := #[k11m0]
  instanceTypes := #[.int]
  staticTypes := #[.int, .int, (.object "java/lang/Class"), (.array .char), (.array .byte), (.array .byte), .int, .int, .long]
  resolved := Array.replicate 453 none
  statics := none }

def pool12 : Array CpInfo := pool [(1, u "java/lang/Cloneable"), (0, .class_ 1), (0, u "java/lang/Object"), (0, .class_ 3)] 3

/-- java/lang/Cloneable -/
def k12 : Class := { plain "java/lang/Cloneable" (some 0) with
  accessFlags := 1537
  interfaces := #[]
  cf := some (fileOf pool12 2 #[] #[] 1537 4 #[] #[])
  fields := #[]
  methods := #[]
  instanceTypes := #[]
  staticTypes := #[]
  resolved := Array.replicate 8 none
  statics := none }

/-- the primitive byte -/
def k13 : Class := { plain "byte" none with kind := .primitive 'B', accessFlags := 0x411 }
/-- [B -/
def k14 : Class := { plain "[B" (some 0) with kind := .array 13 .byte, interfaces := #[12, 4], accessFlags := 1041 }

/-- the primitive double -/
def k15 : Class := { plain "double" none with kind := .primitive 'D', accessFlags := 0x411 }
/-- [D -/
def k16 : Class := { plain "[D" (some 0) with kind := .array 15 .double, interfaces := #[12, 4], accessFlags := 1041 }

/-- the primitive int -/
def k17 : Class := { plain "int" none with kind := .primitive 'I', accessFlags := 0x411 }
/-- [I -/
def k18 : Class := { plain "[I" (some 0) with kind := .array 17 .int, interfaces := #[12, 4], accessFlags := 1041 }

/-- the primitive long -/
def k19 : Class := { plain "long" none with kind := .primitive 'J', accessFlags := 0x411 }
/-- [J -/
def k20 : Class := { plain "[J" (some 0) with kind := .array 19 .long, interfaces := #[12, 4], accessFlags := 1041 }

def heap : Heap := #[]
def classes : Array Class := #[k0, k1, k2, k3, k4, k5, k6, k7, k8, k9, k10, k11, k12, k13, k14, k15, k16, k17, k18, k19, k20]
def interned : List (Array UInt16 × Addr) := []
def slotsUsed : Nat := 0
def theMethod : MethodId := ⟨1, 1⟩
def args0 : Array Value := #[.int 9, .int 5, .int 7, .int 3]
def aboutOver (below : List Frame) : State where
  vm := { classes := classes, interned := interned.toArray }
  heap := heap
  slotsUsed := slotsUsed
  threads := #[{ frames := .invoking theMethod args0 :: below }]
def below0 : List Frame := [.native { method := ⟨0, 0⟩, args := #[] }]
def about1 : State := aboutOver below0
def p0 : Program := .bare "" "" ""
def e0 : Env := launch0.env 0 0 0
theorem w_frames : about1.frames = Frame.invoking theMethod args0 :: below0 := rfl
set_option maxRecDepth 65536 in
theorem w_args : argsFit about1.vm theMethod args0 = true := by decide +kernel
set_option maxRecDepth 65536 in
theorem w_heap : heapFits about1 = true := by decide +kernel
set_option maxRecDepth 65536 in
theorem w_runnable : about1.curStatus? = some .runnable := by decide +kernel
set_option maxRecDepth 65536 in
theorem w_alone : about1.alone = true := by decide +kernel
set_option maxRecDepth 65536 in
theorem w_named : about1.methodNamed? x = some theMethod := by decide +kernel
set_option maxRecDepth 65536 in
theorem w_hears : about1.hears theMethod below0 = true := by decide +kernel
set_option maxRecDepth 65536 in
theorem w_ripe : about1.ripe theMethod args0 below0 = true := by decide +kernel
theorem w_running : about1.status = .running := rfl
set_option maxRecDepth 65536 in
theorem w_room : about1.hasRoom e0.platform room_1 = true :=
  launch0.hasRoom_least _ room_1 (by decide +kernel) (by decide +kernel) (by decide +kernel) (by decide +kernel) (by decide +kernel) (by decide +kernel)
theorem allAtoms_all (ts : List Jvm.Cond) (a : Array Jvm.Value) (st : Jvm.State) : (allAtoms ts).before a st = ts.all (fun c => c.before a st) := by
  induction ts with
  | nil => rfl
  | cons c t ih =>
    show (Jvm.Cond.and c (allAtoms t)).before a st = _
    rw [Jvm.Cond.before_and, ih, List.all_cons]
def words1 : List Jvm.Cond := Jvm.Cond.code x code maxLocals ret :: tables_1
/-- a 'code' word, met by the world's own term for the bytes: nothing is compared byte by byte -/
theorem code_word {y : MethodName} {bytes : ByteArray} {mx : Nat} {rt : Option FieldType} {a : Array Value} {s : State} {m : MethodId} {meth : Method} {c : Code} (h1 : s.methodNamed? y = some m) (h2 : s.vm.method? m = some meth) (h3 : meth.code = some c) (h4 : c.code = bytes)
    (h5 : (c.maxLocals == mx && c.exceptionTable.isEmpty && decide (c.maxStack ≤ mostOperands) && decide (meth.sig.returnType = rt) && !meth.locks && decide (parseMethodDescriptor y.desc = some meth.sig)) = true) : (Jvm.Cond.code y bytes mx rt).before a s = true := by
  simp only [Bool.and_eq_true, beq_iff_eq, Bool.not_eq_true', decide_eq_true_eq] at h5
  obtain ⟨⟨⟨⟨⟨g1, g2⟩, g3⟩, g4⟩, g5⟩, g6⟩ := h5
  simp [Cond.before, Cond.holds, Cond.value, h1, h2, h3, h4, g1, g2, g3, g4, g5, g6]
def isCode : Jvm.Cond → Bool
  | .code _ _ _ _ => true
  | _ => false
theorem all_split {L : List Jvm.Cond} {P : Jvm.Cond → Bool} (h1 : L.all (fun c => isCode c || P c) = true) (h2 : ∀ c ∈ L.filter isCode, P c = true) : L.all P = true := by
  refine List.all_eq_true.mpr fun c hc => ?_
  have h := List.all_eq_true.mp h1 c hc
  rcases Bool.eq_false_or_eq_true (isCode c) with hi | hi
  · exact h2 c (List.mem_filter.mpr ⟨hc, hi⟩)
  · simpa [hi] using h
set_option maxRecDepth 65536 in
theorem w_c0 : (Jvm.Cond.code x code maxLocals ret).before args0 about1 = true := code_word (m := ⟨1, 1⟩) (meth := k1m1) (c := k1c1) (by decide +kernel) rfl rfl rfl (by decide +kernel)
set_option maxRecDepth 65536 in
theorem w_c1 : (Jvm.Cond.code ({ cls := "com/example/nearterm/nearterm/embedding/ExactSums", name := "<init>", desc := "(I)V" } : Jvm.MethodName) prog_7_method_1_code (2 : Nat) (Option.none : Option Jvm.ClassFile.FieldType)).before args0 about1 = true := code_word (m := ⟨2, 0⟩) (meth := k2m0) (c := k2c0) (by decide +kernel) rfl rfl rfl (by decide +kernel)
set_option maxRecDepth 65536 in
theorem w_c2 : (Jvm.Cond.code ({ cls := "java/lang/Object", name := "<init>", desc := "()V" } : Jvm.MethodName) object_method_1_code (1 : Nat) (Option.none : Option Jvm.ClassFile.FieldType)).before args0 about1 = true := code_word (m := ⟨0, 0⟩) (meth := k0m0) (c := k0c0) (by decide +kernel) rfl rfl rfl (by decide +kernel)
set_option maxRecDepth 65536 in
theorem w_c3 : (Jvm.Cond.code ({ cls := "java/lang/Math", name := "multiplyExact", desc := "(II)I" } : Jvm.MethodName) jdk_29_method_28_code (4 : Nat) (Option.some Jvm.ClassFile.FieldType.int)).before args0 about1 = true := code_word (m := ⟨3, 1⟩) (meth := k3m1) (c := k3c1) (by decide +kernel) rfl rfl rfl (by decide +kernel)
set_option maxRecDepth 65536 in
theorem w_c4 : (Jvm.Cond.code ({ cls := "com/example/nearterm/nearterm/embedding/ExactSums", name := "add", desc := "(ID)V" } : Jvm.MethodName) prog_7_method_4_code (7 : Nat) (Option.none : Option Jvm.ClassFile.FieldType)).before args0 about1 = true := code_word (m := ⟨2, 1⟩) (meth := k2m1) (c := k2c1) (by decide +kernel) rfl rfl rfl (by decide +kernel)
set_option maxRecDepth 65536 in
theorem w_c5 : (Jvm.Cond.code ({ cls := "com/example/nearterm/nearterm/embedding/ExactSums", name := "exponent", desc := "(J)I" } : Jvm.MethodName) prog_7_method_6_code (2 : Nat) (Option.some Jvm.ClassFile.FieldType.int)).before args0 about1 = true := code_word (m := ⟨2, 2⟩) (meth := k2m2) (c := k2c2) (by decide +kernel) rfl rfl rfl (by decide +kernel)
set_option maxRecDepth 65536 in
theorem w_c6 : (Jvm.Cond.code ({ cls := "com/example/nearterm/nearterm/embedding/ExactSums", name := "position", desc := "(I)I" } : Jvm.MethodName) prog_7_method_8_code (1 : Nat) (Option.some Jvm.ClassFile.FieldType.int)).before args0 about1 = true := code_word (m := ⟨2, 4⟩) (meth := k2m4) (c := k2c4) (by decide +kernel) rfl rfl rfl (by decide +kernel)
set_option maxRecDepth 65536 in
theorem w_c7 : (Jvm.Cond.code ({ cls := "java/lang/Math", name := "max", desc := "(II)I" } : Jvm.MethodName) jdk_29_method_65_code (2 : Nat) (Option.some Jvm.ClassFile.FieldType.int)).before args0 about1 = true := code_word (m := ⟨3, 2⟩) (meth := k3m2) (c := k3c2) (by decide +kernel) rfl rfl rfl (by decide +kernel)
set_option maxRecDepth 65536 in
theorem w_c8 : (Jvm.Cond.code ({ cls := "com/example/nearterm/nearterm/embedding/ExactSums", name := "mantissa", desc := "(JI)J" } : Jvm.MethodName) prog_7_method_7_code (3 : Nat) (Option.some Jvm.ClassFile.FieldType.long)).before args0 about1 = true := code_word (m := ⟨2, 3⟩) (meth := k2m3) (c := k2c3) (by decide +kernel) rfl rfl rfl (by decide +kernel)
set_option maxRecDepth 65536 in
theorem w_c9 : (Jvm.Cond.code ({ cls := "com/example/nearterm/nearterm/embedding/ExactSums", name := "add", desc := "(IIJJ)V" } : Jvm.MethodName) prog_7_method_10_code (13 : Nat) (Option.none : Option Jvm.ClassFile.FieldType)).before args0 about1 = true := code_word (m := ⟨2, 5⟩) (meth := k2m5) (c := k2c5) (by decide +kernel) rfl rfl rfl (by decide +kernel)
set_option maxRecDepth 65536 in
theorem w_c10 : (Jvm.Cond.code ({ cls := "com/example/nearterm/nearterm/embedding/ExactSums", name := "addAll", desc := "(Lcom/example/nearterm/nearterm/embedding/ExactSums;)V" } : Jvm.MethodName) prog_7_method_11_code (3 : Nat) (Option.none : Option Jvm.ClassFile.FieldType)).before args0 about1 = true := code_word (m := ⟨2, 6⟩) (meth := k2m6) (c := k2c6) (by decide +kernel) rfl rfl rfl (by decide +kernel)
set_option maxRecDepth 65536 in
theorem w_c11 : (Jvm.Cond.code ({ cls := "com/example/nearterm/nearterm/embedding/ExactSums", name := "rounded", desc := "()[D" } : Jvm.MethodName) prog_7_method_13_code (4 : Nat) (Option.some (Jvm.ClassFile.FieldType.array Jvm.ClassFile.FieldType.double))).before args0 about1 = true := code_word (m := ⟨2, 7⟩) (meth := k2m7) (c := k2c7) (by decide +kernel) rfl rfl rfl (by decide +kernel)
set_option maxRecDepth 65536 in
theorem w_c12 : (Jvm.Cond.code ({ cls := "com/example/nearterm/nearterm/embedding/ExactSums", name := "rounded", desc := "(I[J)D" } : Jvm.MethodName) prog_7_method_14_code (11 : Nat) (Option.some Jvm.ClassFile.FieldType.double)).before args0 about1 = true := code_word (m := ⟨2, 8⟩) (meth := k2m8) (c := k2c8) (by decide +kernel) rfl rfl rfl (by decide +kernel)
set_option maxRecDepth 65536 in
theorem w_c13 : (Jvm.Cond.code ({ cls := "java/lang/Long", name := "numberOfLeadingZeros", desc := "(J)I" } : Jvm.MethodName) jdk_35_method_48_code (3 : Nat) (Option.some Jvm.ClassFile.FieldType.int)).before args0 about1 = true := code_word (m := ⟨10, 0⟩) (meth := k10m0) (c := k10c0) (by decide +kernel) rfl rfl rfl (by decide +kernel)
set_option maxRecDepth 65536 in
theorem w_c14 : (Jvm.Cond.code ({ cls := "java/lang/Integer", name := "numberOfLeadingZeros", desc := "(I)I" } : Jvm.MethodName) jdk_33_method_47_code (2 : Nat) (Option.some Jvm.ClassFile.FieldType.int)).before args0 about1 = true := code_word (m := ⟨11, 0⟩) (meth := k11m0) (c := k11c0) (by decide +kernel) rfl rfl rfl (by decide +kernel)
set_option maxRecDepth 65536 in
theorem w_c15 : (Jvm.Cond.code ({ cls := "com/example/nearterm/nearterm/embedding/ExactSums", name := "nearest", desc := "([JI)J" } : Jvm.MethodName) prog_7_method_15_code (5 : Nat) (Option.some Jvm.ClassFile.FieldType.long)).before args0 about1 = true := code_word (m := ⟨2, 9⟩) (meth := k2m9) (c := k2c9) (by decide +kernel) rfl rfl rfl (by decide +kernel)
set_option maxRecDepth 65536 in
theorem w_c16 : (Jvm.Cond.code ({ cls := "com/example/nearterm/nearterm/embedding/ExactSums", name := "bitsFrom", desc := "([JI)J" } : Jvm.MethodName) prog_7_method_16_code (7 : Nat) (Option.some Jvm.ClassFile.FieldType.long)).before args0 about1 = true := code_word (m := ⟨2, 10⟩) (meth := k2m10) (c := k2c10) (by decide +kernel) rfl rfl rfl (by decide +kernel)
set_option maxRecDepth 65536 in
theorem w_c17 : (Jvm.Cond.code ({ cls := "com/example/nearterm/nearterm/embedding/ExactSums", name := "bit", desc := "([JI)Z" } : Jvm.MethodName) prog_7_method_17_code (2 : Nat) (Option.some Jvm.ClassFile.FieldType.boolean)).before args0 about1 = true := code_word (m := ⟨2, 11⟩) (meth := k2m11) (c := k2c11) (by decide +kernel) rfl rfl rfl (by decide +kernel)
def codes1 : List Jvm.Cond := [Jvm.Cond.code x code maxLocals ret, Jvm.Cond.code ({ cls := "com/example/nearterm/nearterm/embedding/ExactSums", name := "<init>", desc := "(I)V" } : Jvm.MethodName) prog_7_method_1_code (2 : Nat) (Option.none : Option Jvm.ClassFile.FieldType), Jvm.Cond.code ({ cls := "java/lang/Object", name := "<init>", desc := "()V" } : Jvm.MethodName) object_method_1_code (1 : Nat) (Option.none : Option Jvm.ClassFile.FieldType), Jvm.Cond.code ({ cls := "java/lang/Math", name := "multiplyExact", desc := "(II)I" } : Jvm.MethodName) jdk_29_method_28_code (4 : Nat) (Option.some Jvm.ClassFile.FieldType.int), Jvm.Cond.code ({ cls := "com/example/nearterm/nearterm/embedding/ExactSums", name := "add", desc := "(ID)V" } : Jvm.MethodName) prog_7_method_4_code (7 : Nat) (Option.none : Option Jvm.ClassFile.FieldType), Jvm.Cond.code ({ cls := "com/example/nearterm/nearterm/embedding/ExactSums", name := "exponent", desc := "(J)I" } : Jvm.MethodName) prog_7_method_6_code (2 : Nat) (Option.some Jvm.ClassFile.FieldType.int), Jvm.Cond.code ({ cls := "com/example/nearterm/nearterm/embedding/ExactSums", name := "position", desc := "(I)I" } : Jvm.MethodName) prog_7_method_8_code (1 : Nat) (Option.some Jvm.ClassFile.FieldType.int), Jvm.Cond.code ({ cls := "java/lang/Math", name := "max", desc := "(II)I" } : Jvm.MethodName) jdk_29_method_65_code (2 : Nat) (Option.some Jvm.ClassFile.FieldType.int), Jvm.Cond.code ({ cls := "com/example/nearterm/nearterm/embedding/ExactSums", name := "mantissa", desc := "(JI)J" } : Jvm.MethodName) prog_7_method_7_code (3 : Nat) (Option.some Jvm.ClassFile.FieldType.long), Jvm.Cond.code ({ cls := "com/example/nearterm/nearterm/embedding/ExactSums", name := "add", desc := "(IIJJ)V" } : Jvm.MethodName) prog_7_method_10_code (13 : Nat) (Option.none : Option Jvm.ClassFile.FieldType), Jvm.Cond.code ({ cls := "com/example/nearterm/nearterm/embedding/ExactSums", name := "addAll", desc := "(Lcom/example/nearterm/nearterm/embedding/ExactSums;)V" } : Jvm.MethodName) prog_7_method_11_code (3 : Nat) (Option.none : Option Jvm.ClassFile.FieldType), Jvm.Cond.code ({ cls := "com/example/nearterm/nearterm/embedding/ExactSums", name := "rounded", desc := "()[D" } : Jvm.MethodName) prog_7_method_13_code (4 : Nat) (Option.some (Jvm.ClassFile.FieldType.array Jvm.ClassFile.FieldType.double)), Jvm.Cond.code ({ cls := "com/example/nearterm/nearterm/embedding/ExactSums", name := "rounded", desc := "(I[J)D" } : Jvm.MethodName) prog_7_method_14_code (11 : Nat) (Option.some Jvm.ClassFile.FieldType.double), Jvm.Cond.code ({ cls := "java/lang/Long", name := "numberOfLeadingZeros", desc := "(J)I" } : Jvm.MethodName) jdk_35_method_48_code (3 : Nat) (Option.some Jvm.ClassFile.FieldType.int), Jvm.Cond.code ({ cls := "java/lang/Integer", name := "numberOfLeadingZeros", desc := "(I)I" } : Jvm.MethodName) jdk_33_method_47_code (2 : Nat) (Option.some Jvm.ClassFile.FieldType.int), Jvm.Cond.code ({ cls := "com/example/nearterm/nearterm/embedding/ExactSums", name := "nearest", desc := "([JI)J" } : Jvm.MethodName) prog_7_method_15_code (5 : Nat) (Option.some Jvm.ClassFile.FieldType.long), Jvm.Cond.code ({ cls := "com/example/nearterm/nearterm/embedding/ExactSums", name := "bitsFrom", desc := "([JI)J" } : Jvm.MethodName) prog_7_method_16_code (7 : Nat) (Option.some Jvm.ClassFile.FieldType.long), Jvm.Cond.code ({ cls := "com/example/nearterm/nearterm/embedding/ExactSums", name := "bit", desc := "([JI)Z" } : Jvm.MethodName) prog_7_method_17_code (2 : Nat) (Option.some Jvm.ClassFile.FieldType.boolean)]
set_option maxRecDepth 65536 in
theorem codes_eq : words1.filter isCode = codes1 := rfl
theorem w_codes : ∀ c ∈ words1.filter isCode, c.before args0 about1 = true := by
  rw [codes_eq]
  intro c hc
  simp only [codes1, List.mem_cons, List.not_mem_nil, or_false] at hc
  rcases hc with rfl | rfl | rfl | rfl | rfl | rfl | rfl | rfl | rfl | rfl | rfl | rfl | rfl | rfl | rfl | rfl | rfl | rfl
  · exact w_c0
  · exact w_c1
  · exact w_c2
  · exact w_c3
  · exact w_c4
  · exact w_c5
  · exact w_c6
  · exact w_c7
  · exact w_c8
  · exact w_c9
  · exact w_c10
  · exact w_c11
  · exact w_c12
  · exact w_c13
  · exact w_c14
  · exact w_c15
  · exact w_c16
  · exact w_c17
set_option maxRecDepth 65536 in
theorem w_t1 : (words1.take 24).all (fun c => isCode c || c.before args0 about1) = true := by decide +kernel
set_option maxRecDepth 65536 in
theorem w_t2 : ((words1.drop 24).take 24).all (fun c => isCode c || c.before args0 about1) = true := by decide +kernel
set_option maxRecDepth 65536 in
theorem w_t3 : (((words1.drop 24).drop 24).take 24).all (fun c => isCode c || c.before args0 about1) = true := by decide +kernel
set_option maxRecDepth 65536 in
theorem w_t4 : (((words1.drop 24).drop 24).drop 24).all (fun c => isCode c || c.before args0 about1) = true := by decide +kernel
theorem w_tables : (allAtoms (Jvm.Cond.code x code maxLocals ret :: tables_1)).before args0 about1 = true := by
  rw [allAtoms_all]
  show words1.all (fun c => c.before args0 about1) = true
  refine all_split ?_ w_codes
  rw [← List.take_append_drop 24 words1, List.all_append, w_t1, ← List.take_append_drop 24 (words1.drop 24), List.all_append, w_t2, ← List.take_append_drop 24 ((words1.drop 24).drop 24), List.all_append, w_t3, w_t4]
  rfl
set_option maxRecDepth 65536 in
theorem w_case : (Jvm.Cond.and given_1 narrow_1).before args0 about1 = true := by decide +kernel
theorem w_applies : (headSpec (Jvm.Cond.code x code maxLocals ret :: tables_1) room_1).applies x e0.platform about1 = true :=
  (Spec.applies_iff w_frames).mpr ⟨w_running, w_runnable, w_alone, w_named, w_hears, w_ripe, w_room, w_tables⟩
theorem atStart : AtStart classFile x code maxLocals ret World_1 tables_1 room_1 Calls_1 rest_1 Pre_1 launch0 p0 e0 about1 theMethod args0 below0 :=
  ⟨lists_1, trivial, launch0.admits_env _ _ _, launch0.least_env, fairChoices_fair.cas, fairChoices_fair.clock, w_frames, w_args, w_heap, w_applies, trivial, trivial, w_case⟩
end start1
theorem witness_1 : WitnessClaimed_1 := ⟨start1.p0, start1.e0, start1.about1, start1.theMethod, start1.args0, start1.below0, start1.atStart⟩
end Jvm.Pilot.@@N@@
